import PyProof.Rows.All
import Wide.All
import OpenK.AllK
import Wide.FinOn
import PyProof.ExcStrCall
import PyProof.ExcStrAll.ValueError
import PyProof.ListIndexNeg
import PySem.Challenge.RW_sl0005_01
set_option Elab.async false
section
open PySem PySem.W PyProof.Rows
namespace Mine
set_option maxRecDepth 100000 in
set_option maxHeartbeats 8000000 in
open_top hd for PySem.Challenge.rw_sl0005_01
end Mine
end
section
open PySem PySem.Sre
namespace Mine

noncomputable def it : Nat → Sre.M → Sre.M
  | 0, m => m
  | n + 1, m => it n m.step
theorem it_done {m : Sre.M} (h : m.outcome.isSome = true) : ∀ n, it n m = m
  | 0 => rfl
  | n + 1 => by
    have : m.step = m := by unfold M.step; rw [if_pos h]
    show it n m.step = m
    rw [this]; exact it_done h n
theorem it_add (a : Nat) : ∀ (b : Nat) (m : Sre.M), it (b + a) m = it a (it b m)
  | 0, m => by rw [Nat.zero_add]; rfl
  | b + 1, m => by
    rw [show b + 1 + a = (b + a) + 1 by (first | lia | omega)]
    exact it_add a b m.step
theorem it_le {m : Sre.M} {n k : Nat} (h : (it n m).outcome.isSome = true) (hk : n ≤ k) : it k m = it n m := by
  obtain ⟨d, rfl⟩ := Nat.exists_eq_add_of_le hk
  rw [it_add]; exact it_done h d
theorem runFor_it : ∀ (n : Nat) (m : Sre.M), m.runFor n = it n m
  | 0, _ => rfl
  | n + 1, m => by
    unfold M.runFor
    split
    · rename_i h; exact (it_done h (n + 1)).symm
    · exact runFor_it n m.step

noncomputable def code1 : Array Nat := #[14, 4, 0, 1, 1, 6, 1, 16, 46, 1]
noncomputable def code2 : Array Nat := #[14, 9, 4, 1, 2, 16, 10, 16, 13, 0, 7, 7, 16, 13, 16, 10, 15, 18, 5, 16, 10, 15, 13, 11, 16, 13, 5, 5, 0, 16, 10, 1, 15, 2, 0, 1]

noncomputable abbrev st (code text : Array Nat) (lim lastStart : Nat) (must : Bool) (start pc pos handed : Nat) (outer : Bool) (frames : List Sre.Frame) (weight : Nat) (seen : Seen) (ans : Option Bool) (out : Option Sre.Outcome := none) : Sre.M :=
  { code, text, lim, start, lastStart, wholeText := false, mustAdvance := must, pc, pos, handed, outermost := outer, marks := #[], lastmark := -1, lastindex := -1, loops := #[], inner := none, frames, weight, answer := ans, seen, outcome := out }

noncomputable abbrev fr0 (pc s : Nat) (o : Bool) : Sre.Frame := { wait := .nextStart, pc, pos := s, outermost := o }

section
variable {text : Array Nat} {lim ls : Nat} {must o : Bool} {s h : Nat} {sn : Seen}

theorem a1_at : (st code1 text lim ls must s 5 s h o [fr0 5 s o] 1 sn none).step =
    (if (s == 0 || text.getD (s - 1) 0 == 10) = true then st code1 text lim ls must s 7 s h o [fr0 5 s o] 1 ((sn.add 6).add 44) none
     else st code1 text lim ls must s 5 s h o [fr0 5 s o] 1 ((sn.add 6).add 44) (some false)) := rfl
theorem lit_step {code : Array Nat} {start pc pos handed wt : Nat} {fs : List Sre.Frame} (x : Nat) (hx : code.getD (pc + 1) 0 = x) (h0 : code.getD pc 0 = 16) (hz : pc < code.size) :
    (st code text lim ls must start pc pos handed o fs wt sn none).step =
    (if pos ≥ lim then st code text lim ls must start pc pos handed o fs wt (sn.add 16) (some false)
     else if (text.getD pos 0 == x) = true then st code text lim ls must start (pc + 2) (pos + 1) handed o fs wt (sn.add 16) none
      else st code text lim ls must start pc pos handed o fs wt (sn.add 16) (some false)) := by
  have e : (st code text lim ls must start pc pos handed o fs wt sn none).step = (st code text lim ls must start pc pos handed o fs wt sn none).exec := by
    unfold M.step
    rw [if_neg (by simp)]
    exact if_pos hz
  have hw : (st code text lim ls must start pc pos handed o fs wt sn none).word 0 = 16 := h0
  have ha : accepts code pc (text.getD pos 0) (sn.add 16) = .ok (text.getD pos 0 == x, sn.add 16) := by
    unfold accepts
    rw [h0, hx]; rfl
  have hi : itemWidth code pc = 2 := by unfold itemWidth; rw [h0]; rfl
  rw [e]
  unfold M.exec
  rw [hw]
  show (if pos ≥ lim then _ else match accepts code pc (text.getD pos 0) (sn.add 16) with | .error why => _ | .ok (false, seen) => _ | .ok (true, seen) => _) = _
  rw [ha]
  split
  · rfl
  · cases (text.getD pos 0 == x) with
    | false => rfl
    | true =>
      show ({ st code text lim ls must start pc pos handed o fs wt sn none with seen := sn.add 16, pc := pc + itemWidth code pc, pos := pos + 1 } : Sre.M) = _
      rw [hi]; rfl
theorem a1_suc : (st code1 text lim ls must s 9 (s + 1) h o [fr0 5 s o] 1 sn none).step =
    (if (o && (false && (s + 1) != lim || must && (s + 1) == s)) = true then st code1 text lim ls must s 9 (s + 1) h o [fr0 5 s o] 1 (sn.add 1) (some false)
     else st code1 text lim ls must s 9 (s + 1) (s + 1) o [fr0 5 s o] 1 (sn.add 1) (some true)) := rfl
theorem a1_yes {pc p : Nat} : (st code1 text lim ls must s pc p h o [fr0 5 s o] 1 sn (some true)).step = st code1 text lim ls must s 5 s h o [] 0 sn (some true) := rfl
theorem a1_no {pc p : Nat} : (st code1 text lim ls must s pc p h o [fr0 5 s o] 1 sn (some false)).step =
    (if s < ls then st code1 text lim ls false (s + 1) 5 (s + 1) (s + 1) false [fr0 5 (s + 1) false] 1 sn none else st code1 text lim ls must s 5 s h o [] 0 sn (some false)) := rfl
theorem a1_end {b : Bool} {pc p : Nat} : (st code1 text lim ls must s pc p h o [] 0 sn (some b)).step = st code1 text lim ls must s pc p h o [] 0 sn (some b) (some (if b then .matched else .failed)) := rfl

noncomputable abbrev frb (pc s : Nat) (o : Bool) : Sre.Frame := { wait := .nextBranch, pc, pos := s, outermost := o, kept := { lastmark := -1, lastindex := -1, whole := false, marks := #[] } }
noncomputable abbrev frn (s : Nat) (o : Bool) : Sre.Frame := { wait := .lookNot, pc := 26, pos := s, outermost := o, kept := { lastmark := -1, lastindex := -1, whole := false, marks := #[] } }

theorem b_branch : (st code2 text lim ls false s 10 s h o [fr0 10 s o] 1 sn none).step = st code2 text lim ls false s 12 s s o [frb 11 s o, fr0 10 s o] 2 (sn.add 7) none := rfl
theorem b_jump16 {p : Nat} {fs : List Sre.Frame} {wt : Nat} : (st code2 text lim ls false s 16 p h o fs wt sn none).step = st code2 text lim ls false s 35 p h o fs wt (sn.add 15) none := rfl
theorem b_jump21 {p : Nat} {fs : List Sre.Frame} {wt : Nat} : (st code2 text lim ls false s 21 p h o fs wt sn none).step = st code2 text lim ls false s 35 p h o fs wt (sn.add 15) none := rfl
theorem b_jump32 {p : Nat} {fs : List Sre.Frame} {wt : Nat} : (st code2 text lim ls false s 32 p h o fs wt sn none).step = st code2 text lim ls false s 35 p h o fs wt (sn.add 15) none := rfl
theorem b_suc {p : Nat} {fs : List Sre.Frame} {wt : Nat} : (st code2 text lim ls false s 35 p h o fs wt sn none).step = st code2 text lim ls false s 35 p p o fs wt (sn.add 1) (some true) := by cases o <;> rfl
theorem b_byes {k pc p q : Nat} {o' : Bool} : (st code2 text lim ls false s pc p h o [frb k q o', fr0 10 s o'] 2 sn (some true)).step = st code2 text lim ls false s k q h o' [fr0 10 s o'] 1 sn (some true) := rfl
theorem b_yes {pc p : Nat} {o' : Bool} : (st code2 text lim ls false s pc p h o [fr0 10 s o'] 1 sn (some true)).step = st code2 text lim ls false s 10 s h o' [] 0 sn (some true) := rfl
theorem b_end {b : Bool} {pc p : Nat} : (st code2 text lim ls must s pc p h o [] 0 sn (some b)).step = st code2 text lim ls must s pc p h o [] 0 sn (some b) (some (if b then .matched else .failed)) := rfl
theorem b_no11 {pc p : Nat} {o' : Bool} : (st code2 text lim ls false s pc p h o [frb 11 s o', fr0 10 s o'] 2 sn (some false)).step = st code2 text lim ls false s 19 s s o' [frb 18 s o', fr0 10 s o'] 2 sn none := rfl
theorem b_no18 {pc p : Nat} {o' : Bool} : (st code2 text lim ls false s pc p h o [frb 18 s o', fr0 10 s o'] 2 sn (some false)).step = st code2 text lim ls false s 24 s s o' [frb 23 s o', fr0 10 s o'] 2 sn none := rfl
theorem b_look {p : Nat} {f : Sre.Frame} : (st code2 text lim ls false s 26 p h o [f, fr0 10 s o] 2 sn none).step = st code2 text lim ls false s 29 p p false [frn p o, f, fr0 10 s o] 3 (sn.add 5) none := rfl
theorem b_lookNo {pc p q : Nat} {o' : Bool} {f : Sre.Frame} : (st code2 text lim ls false s pc p h o [frn q o', f, fr0 10 s o'] 3 sn (some false)).step = st code2 text lim ls false s 32 q h o' [f, fr0 10 s o'] 2 sn none := rfl

noncomputable def Ends (r : Option (Nat × Nat)) (m : Sre.M) : Prop := match r with
  | some (a, b) => m.outcome = some .matched ∧ m.start = a ∧ m.handed = b
  | none => m.outcome = some .failed
noncomputable def Gets (n : Nat) (r : Option (Nat × Nat)) (m : Sre.M) : Prop := Ends r (it n m)
theorem Gets.next {n : Nat} {r : Option (Nat × Nat)} {m m' : Sre.M} (e : m.step = m') (g : Gets n r m') : Gets (n + 1) r m := by
  unfold Gets it; rw [e]; exact g
theorem Gets.some {n : Nat} {r : Option (Nat × Nat)} {m : Sre.M} (g : Gets n r m) : (it n m).outcome.isSome = true := by
  unfold Gets Ends at g
  cases r with
  | none => simp only at g; rw [g]; rfl
  | some p => obtain ⟨a, b⟩ := p; simp only at g; rw [g.1]; rfl
theorem Gets.le {n k : Nat} {r : Option (Nat × Nat)} {m : Sre.M} (g : Gets n r m) (h : n ≤ k) : Gets k r m := by
  unfold Gets; rw [it_le g.some h]; exact g

noncomputable def find1 (text : Array Nat) : Nat → Nat → Option (Nat × Nat)
  | 0, _ => none
  | f + 1, s => if (s == 0 || text.getD (s - 1) 0 == 10) = true ∧ s < text.size ∧ text.getD s 0 = 46 then some (s, s + 1) else find1 text f (s + 1)
theorem find1_succ (text : Array Nat) (f s : Nat) : find1 text (f + 1) s = if (s == 0 || text.getD (s - 1) 0 == 10) = true ∧ s < text.size ∧ text.getD s 0 = 46 then some (s, s + 1) else find1 text f (s + 1) := rfl

theorem search1 : ∀ (f s : Nat) (must o : Bool) (h : Nat) (sn : Seen), s + f = text.size → Gets (5 * (f + 1)) (find1 text (f + 1) s) (st code1 text text.size text.size must s 5 s h o [fr0 5 s o] 1 sn none) := by
  intro f
  induction f with
  | zero =>
    intro s must o h sn hs
    have hs' : s = text.size := by (first | lia | omega)
    have e : find1 text (0 + 1) s = none := by rw [find1_succ]; rw [if_neg (by (first | lia | omega))]; rfl
    rw [e]
    by_cases c : (s == 0 || text.getD (s - 1) 0 == 10) = true
    · refine Gets.next (a1_at.trans (if_pos c)) (Gets.next ((lit_step 46 rfl rfl (by decide)).trans (if_pos (by (first | lia | omega)))) (Gets.next (a1_no.trans (if_neg (by (first | lia | omega)))) (Gets.next a1_end ?_)))
      exact rfl
    · refine Gets.next (a1_at.trans (if_neg c)) (Gets.next (a1_no.trans (if_neg (by (first | lia | omega)))) (Gets.next a1_end ?_))
      exact rfl
  | succ f ih =>
    intro s must o h sn hs
    have lt : s < text.size := by (first | lia | omega)
    have more : ∀ (must o : Bool) (h pc p : Nat) (sn : Seen), Gets (5 * (f + 1) + 1) (find1 text (f + 1) (s + 1)) (st code1 text text.size text.size must s pc p h o [fr0 5 s o] 1 sn (some false)) := fun must o h pc p sn =>
      Gets.next (a1_no.trans (if_pos lt)) (ih (s + 1) _ _ _ _ (by (first | lia | omega)))
    rw [find1_succ]
    by_cases c : (s == 0 || text.getD (s - 1) 0 == 10) = true
    · by_cases d : text.getD s 0 = 46
      · rw [if_pos ⟨c, lt, d⟩]
        refine (Gets.next (n := 4) (a1_at.trans (if_pos c)) (Gets.next ((lit_step 46 rfl rfl (by decide)).trans ((if_neg (by (first | lia | omega))).trans (if_pos (by rw [d]; decide)))) (Gets.next (a1_suc.trans (if_neg (by simp))) (Gets.next a1_yes (Gets.next a1_end ?_))))).le (by (first | lia | omega))
        exact ⟨rfl, rfl, rfl⟩
      · rw [if_neg (by rintro ⟨_, _, q⟩; exact d q)]
        exact (Gets.next (a1_at.trans (if_pos c)) (Gets.next ((lit_step 46 rfl rfl (by decide)).trans ((if_neg (by (first | lia | omega))).trans (if_neg (by rw [beq_iff_eq]; first | exact d | (rw [d]; decide))))) (more _ _ _ _ _ _))).le (by (first | lia | omega))
    · rw [if_neg (by rintro ⟨q, _⟩; exact c q)]
      exact (Gets.next (a1_at.trans (if_neg c)) (more _ _ _ _ _ _)).le (by (first | lia | omega))

theorem forSearch1 {pos : Nat} {must : Bool} (hp : pos ≤ text.size) : Gets (5 * (text.size + 2)) (find1 text (text.size + 1 - pos) pos) (Sre.forSearch code1 text 0 pos text.size must) := by
  by_cases h : pos = text.size
  · have e : Sre.forSearch code1 text 0 pos text.size must = st code1 text text.size 0 must pos 5 pos pos true [] 0 (({} : Seen).add 14) (some false) := by
      show (if (decide (pos > text.size) || decide (text.size - pos < 1)) = true then _ else _) = _
      rw [if_pos (by simp; (first | lia | omega))]; rfl
    rw [e]
    have e2 : find1 text (text.size + 1 - pos) pos = none := by
      rw [show text.size + 1 - pos = 0 + 1 by (first | lia | omega)]
      rw [find1_succ]
      rw [if_neg (by (first | lia | omega))]; rfl
    rw [e2]
    refine (Gets.next (n := 0) a1_end ?_).le (by (first | lia | omega))
    exact rfl
  · have e : Sre.forSearch code1 text 0 pos text.size must = st code1 text text.size text.size must pos 5 pos pos true [fr0 5 pos true] 1 (({} : Seen).add 14) none := by
      show (if (decide (pos > text.size) || decide (text.size - pos < 1)) = true then _ else _) = _
      rw [if_neg (by simp; (first | lia | omega))]; rfl
    rw [e, show text.size + 1 - pos = (text.size - pos) + 1 by (first | lia | omega)]
    exact (search1 (text.size - pos) pos _ _ _ _ (by (first | lia | omega))).le (by (first | lia | omega))

noncomputable def find2 (text : Array Nat) : Nat → Nat → Option (Nat × Nat)
  | 0, _ => none
  | f + 1, s => if s < text.size then (if text.getD s 0 = 10 then some (s, s + 1) else if text.getD s 0 = 13 then (if s + 1 < text.size ∧ text.getD (s + 1) 0 = 10 then some (s, s + 2) else some (s, s + 1)) else find2 text f (s + 1)) else none
theorem find2_succ (text : Array Nat) (f s : Nat) : find2 text (f + 1) s = if s < text.size then (if text.getD s 0 = 10 then some (s, s + 1) else if text.getD s 0 = 13 then (if s + 1 < text.size ∧ text.getD (s + 1) 0 = 10 then some (s, s + 2) else some (s, s + 1)) else find2 text f (s + 1)) else none := rfl

theorem try2 (s : Nat) (o : Bool) (h : Nat) (sn : Seen) (lt : s < text.size) (c : text.getD s 0 = 10 ∨ text.getD s 0 = 13) :
    Gets 40 (if text.getD s 0 = 10 then some (s, s + 1) else if text.getD s 0 = 13 then (if s + 1 < text.size ∧ text.getD (s + 1) 0 = 10 then some (s, s + 2) else some (s, s + 1)) else none)
      (st code2 text text.size ls false s 10 s h o [fr0 10 s o] 1 sn none) := by
  by_cases d : text.getD s 0 = 10
  · rw [if_pos d]
    refine (Gets.next (n := 8) b_branch (Gets.next ((lit_step 13 rfl rfl (by decide)).trans ((if_neg (by (first | lia | omega))).trans (if_neg (by rw [beq_iff_eq]; first | exact d | (rw [d]; decide))))) (Gets.next b_no11 (Gets.next ((lit_step 10 rfl rfl (by decide)).trans ((if_neg (by (first | lia | omega))).trans (if_pos (by rw [d]; decide)))) (Gets.next b_jump21 (Gets.next b_suc (Gets.next b_byes (Gets.next b_yes (Gets.next b_end ?_))))))))).le (by (first | lia | omega))
    exact ⟨rfl, rfl, rfl⟩
  · have e : text.getD s 0 = 13 := c.resolve_left d
    rw [if_neg d, if_pos e]
    by_cases f : s + 1 < text.size ∧ text.getD (s + 1) 0 = 10
    · rw [if_pos f]
      refine (Gets.next (n := 7) b_branch (Gets.next ((lit_step 13 rfl rfl (by decide)).trans ((if_neg (by (first | lia | omega))).trans (if_pos (by rw [e]; decide)))) (Gets.next ((lit_step 10 rfl rfl (by decide)).trans ((if_neg (by (first | lia | omega))).trans (if_pos (by rw [f.2]; decide)))) (Gets.next b_jump16 (Gets.next b_suc (Gets.next b_byes (Gets.next b_yes (Gets.next b_end ?_)))))))).le (by (first | lia | omega))
      exact ⟨rfl, rfl, rfl⟩
    · rw [if_neg f]
      have no : ∀ (pc hh wt : Nat) (oo : Bool) (fs : List Sre.Frame) (sn : Seen) (_ : code2.getD (pc + 1) 0 = 10) (_ : code2.getD pc 0 = 16) (_ : pc < code2.size),
          (st code2 text text.size ls false s pc (s + 1) hh oo fs wt sn none).step = st code2 text text.size ls false s pc (s + 1) hh oo fs wt (sn.add 16) (some false) := fun pc hh wt oo fs sn h1 h2 h3 => by
        rw [lit_step 10 h1 h2 h3]
        by_cases g : s + 1 ≥ text.size
        · rw [if_pos g]
        · rw [if_neg g, if_neg (by simp only [beq_iff_eq]; intro q; exact f ⟨by (first | lia | omega), q⟩)]
      refine (Gets.next (n := 20) b_branch (Gets.next ((lit_step 13 rfl rfl (by decide)).trans ((if_neg (by (first | lia | omega))).trans (if_pos (by rw [e]; decide)))) (Gets.next (no _ _ _ _ _ _ rfl rfl (by decide)) (Gets.next b_no11
        (Gets.next ((lit_step 10 rfl rfl (by decide)).trans ((if_neg (by (first | lia | omega))).trans (if_neg (by rw [e]; decide)))) (Gets.next b_no18 (Gets.next ((lit_step 13 rfl rfl (by decide)).trans ((if_neg (by (first | lia | omega))).trans (if_pos (by rw [e]; decide))))
        (Gets.next b_look (Gets.next (no _ _ _ _ _ _ rfl rfl (by decide)) (Gets.next b_lookNo (Gets.next b_jump32 (Gets.next b_suc (Gets.next b_byes (Gets.next b_yes (Gets.next (n := 6) b_end ?_))))))))))))))).le (by (first | lia | omega))
      exact ⟨rfl, rfl, rfl⟩

theorem inSet2 (c : Nat) (sn : Seen) : ∃ sn', inSet code2 c code2.size 5 true sn = .ok (c == 10 || c == 13, sn') := by
  by_cases h : c = 10
  · subst h; exact ⟨_, rfl⟩
  · by_cases g : c = 13
    · subst g; exact ⟨_, rfl⟩
    · have h' : (c == 10) = false := by simp [h]
      have g' : (c == 13) = false := by simp [g]
      rw [h', g']
      have e : ∃ sn', inSet code2 c code2.size 5 true sn = (if (c == 10) = true then .ok (true, sn') else if (c == 13) = true then .ok (true, ((sn.add 16).add 16)) else .ok (false, ((sn.add 16).add 16).add 0)) := ⟨_, rfl⟩
      obtain ⟨sn', e⟩ := e
      rw [e, h', g']
      exact ⟨_, rfl⟩

theorem from2 : ∀ (f s : Nat) (sn : Seen), s + f = text.size + 1 → ∀ (m : Sre.M), m.code = code2 → m.text = text → m.lim = text.size →
    (∃ sn', M.admitted m f s sn = .ok (none, sn') ∧ find2 text f s = none) ∨ (∃ s' sn', M.admitted m f s sn = .ok (some s', sn') ∧ s' < text.size ∧ (text.getD s' 0 = 10 ∨ text.getD s' 0 = 13) ∧
      find2 text f s = (if text.getD s' 0 = 10 then some (s', s' + 1) else if text.getD s' 0 = 13 then (if s' + 1 < text.size ∧ text.getD (s' + 1) 0 = 10 then some (s', s' + 2) else some (s', s' + 1)) else none)) := by
  intro f
  induction f with
  | zero => intro s sn _ m _ _ _; exact .inl ⟨sn, rfl, rfl⟩
  | succ f ih =>
    intro s sn hs m hc ht hl
    by_cases lt : s < text.size
    · obtain ⟨sn', e⟩ := inSet2 (text.getD s 0) sn
      have ea : M.admitted m (f + 1) s sn = (match (Except.ok (text.getD s 0 == 10 || text.getD s 0 == 13, sn') : Except String (Bool × Seen)) with
          | .ok (true, seen) => .ok (some s, seen) | .ok (false, seen) => M.admitted m f (s + 1) seen | .error why => .error why) := by
        conv => lhs; unfold M.admitted
        rw [hl, if_neg (by (first | lia | omega)), hc, ht, e]
        generalize (text.getD s 0 == 10 || text.getD s 0 == 13) = b
        cases b <;> rfl
      by_cases d : text.getD s 0 = 10
      · refine .inr ⟨s, sn', ?_, lt, .inl d, ?_⟩
        · rw [ea, d]; rfl
        · rw [find2_succ]; rw [if_pos lt, if_pos d, if_pos d]
      · by_cases g : text.getD s 0 = 13
        · refine .inr ⟨s, sn', ?_, lt, .inr g, ?_⟩
          · rw [ea, g]; rfl
          · rw [find2_succ]; rw [if_pos lt, if_neg d, if_pos g, if_neg d, if_pos g]
        · have e2 : find2 text (f + 1) s = find2 text f (s + 1) := by
            conv => lhs; rw [find2_succ]
            rw [if_pos lt, if_neg d, if_neg g]
          have e3 : M.admitted m (f + 1) s sn = M.admitted m f (s + 1) sn' := by
            have hb : (text.getD s 0 == 10 || text.getD s 0 == 13) = false := by
              rw [Bool.or_eq_false_iff]; exact ⟨beq_eq_false_iff_ne.mpr d, beq_eq_false_iff_ne.mpr g⟩
            rw [ea, hb]
          rw [e2, e3]
          exact ih (s + 1) sn' (by (first | lia | omega)) m hc ht hl
    · refine .inl ⟨sn, ?_, ?_⟩
      · unfold M.admitted; rw [hl, if_pos (by (first | lia | omega))]
      · rw [find2_succ]; rw [if_neg lt]

theorem forSearch2 {pos : Nat} {must : Bool} (hp : pos ≤ text.size) : Gets 60 (find2 text (text.size + 1 - pos) pos) (Sre.forSearch code2 text 0 pos text.size must) := by
  by_cases h : pos = text.size
  · have e : Sre.forSearch code2 text 0 pos text.size must = st code2 text text.size 0 must pos 10 pos pos true [] 0 (({} : Seen).add 14) (some false) := by
      show (if (decide (pos > text.size) || decide (text.size - pos < 1)) = true then _ else _) = _
      rw [if_pos (by simp; (first | lia | omega))]; rfl
    rw [e]
    have e2 : find2 text (text.size + 1 - pos) pos = none := by
      rw [show text.size + 1 - pos = 0 + 1 by (first | lia | omega)]
      rw [find2_succ]
      rw [if_neg (by (first | lia | omega))]
    rw [e2]
    refine (Gets.next (n := 0) b_end ?_).le (by (first | lia | omega))
    exact rfl
  · have e : Sre.forSearch code2 text 0 pos text.size must = (st code2 text text.size text.size must pos 10 pos pos true [] 0 (({} : Seen).add 14) none).attemptFrom pos true := by
      show (if (decide (pos > text.size) || decide (text.size - pos < 1)) = true then _ else _) = _
      rw [if_neg (by simp; (first | lia | omega))]; rfl
    rw [e]
    have e1 : (st code2 text text.size text.size must pos 10 pos pos true [] 0 (({} : Seen).add 14) none).attemptFrom pos true =
      (match M.admitted (st code2 text text.size text.size must pos 10 pos pos true [] 0 (({} : Seen).add 14) none) (text.size + 1 - pos) pos (({} : Seen).add 14) with
        | .ok (some s, seen) => ({ st code2 text text.size text.size must pos 10 pos pos true [] 0 (({} : Seen).add 14) none with mustAdvance := false, seen } : Sre.M).attemptAt s true
        | .ok (none, seen) => ({ st code2 text text.size text.size must pos 10 pos pos true [] 0 (({} : Seen).add 14) none with seen } : Sre.M).say false
        | .error why => (st code2 text text.size text.size must pos 10 pos pos true [] 0 (({} : Seen).add 14) none).stick why) := rfl
    rw [e1]
    rcases from2 (text := text) (text.size + 1 - pos) pos (({} : Seen).add 14) (by (first | lia | omega)) (st code2 text text.size text.size must pos 10 pos pos true [] 0 (({} : Seen).add 14) none) rfl rfl rfl with ⟨sn', ea, ef⟩ | ⟨s', sn', ea, lt, c, ef⟩
    · rw [ea, ef]
      refine (Gets.next (n := 0) b_end ?_).le (by (first | lia | omega))
      exact rfl
    · rw [ea, ef]
      exact (try2 s' true s' sn' lt c).le (by (first | lia | omega))
end
end Mine
end
section
open PySem PySem.W PySem.Calls PyProof.Rows
set_option maxRecDepth 100000
namespace Mine

theorem fill : (fun (_ : OpenLaw) (_ : Params → Frag) => True) PySem.Challenge.rw_sl0005_01 Mine.hd.heap_39 := by k_fill; trivial

noncomputable abbrev PG : Program := PySem.Challenge.rw_sl0005_01.row.prog

theorem hideP {G : Prop} (h : ∀ G' : Prop, (G → G') → G') : G := h G id
noncomputable def stP : Stmt → List Stmt × List Stmt × Expr × Expr × Scope
  | .FunctionDef (body := b) (scope := sc) .. => (b, [], default, default, sc)
  | .ClassDef (body := b) .. => (b, [], default, default, default)
  | .For t i b _ _ => (b, [], t, i, default)
  | .While t b _ _ => (b, [], t, default, default)
  | .If _ b e _ => (b, e, default, default, default)
  | .Try b _ _ _ _ => (b, [], default, default, default)
  | .Assign _ v _ => ([], [], v, default, default)
  | _ => ([], [], default, default, default)
noncomputable def stB (s : Stmt) : List Stmt := (stP s).1
noncomputable def stE (s : Stmt) : Expr := (stP s).2.2.1
noncomputable def exP : Expr → Arguments × Expr × Scope × Expr
  | .Lambda p b s _ => (p, b, s, default)
  | .Call _ _ (k :: _) _ => (default, default, default, k.value)
  | _ => (default, default, default, default)
theorem ltS {P : Nat → Prop} {n i : Nat} (h : i < n + 1) (hn : P n) (hr : i < n → P i) : P i := (Nat.lt_or_eq_of_le (Nat.le_of_lt_succ h)).elim hr (fun e => e ▸ hn)
theorem lt3 {P : Nat → Prop} (h0 : P 0) (h1 : P 1) (h2 : P 2) : ∀ i, i < 3 → P i := fun i h => ltS h h2 fun h => ltS h h1 fun h => ltS h h0 fun h => absurd h (Nat.not_lt_zero i)
theorem lt4 {P : Nat → Prop} (h0 : P 0) (h1 : P 1) (h2 : P 2) (h3 : P 3) : ∀ i, i < 4 → P i := fun i h => ltS h h3 (lt3 h0 h1 h2 i)
theorem lt5 {P : Nat → Prop} (h0 : P 0) (h1 : P 1) (h2 : P 2) (h3 : P 3) (h4 : P 4) : ∀ i, i < 5 → P i := fun i h => ltS h h4 (lt4 h0 h1 h2 h3 i)
theorem hideR {M : Model} {A : Around} {c : Code} {R : Result → Shared → Prop} {s : Shared} (h : ∀ R' : Result → Shared → Prop, (∀ r s, R r s → R' r s) → codeAny M A c R' s) : codeAny M A c R s := h R (fun _ _ x => x)
theorem hideQ {α : Type} {M : Model} {A : Around} {t : Sem α} {Q : α → Shared → Prop} {E : Value → Shared → Prop} {s : Shared} (h : ∀ Q' : α → Shared → Prop, (∀ v s, Q v s → Q' v s) → wpAny M A t Q' E s) : wpAny M A t Q E s := h Q (fun _ _ x => x)
theorem hideE {α : Type} {M : Model} {A : Around} {t : Sem α} {Q : α → Shared → Prop} {E : Value → Shared → Prop} {s : Shared} (h : ∀ E' : Value → Shared → Prop, (∀ v s, E v s → E' v s) → wpAny M A t Q E' s) : wpAny M A t Q E s := h E (fun _ _ x => x)
theorem hideI (I₀ : Nat → Shared → Prop) {G : Prop} (h : ∀ I : Nat → Shared → Prop, (∀ k s, I₀ k s → I k s) → (∀ k s, I k s → I₀ k s) → G) : G := h I₀ (fun _ _ x => x) (fun _ _ x => x)
theorem om1 {a b c : Nat} (h : a < b) (e : b + 1 ≤ c) : a + 1 < c := Nat.lt_of_lt_of_le (Nat.succ_lt_succ h) e
theorem om2 {a b c : Nat} (h : a < b) (e : b + 2 ≤ c) : a + 1 + 1 < c := Nat.lt_of_lt_of_le (Nat.succ_lt_succ (Nat.succ_lt_succ h)) e
theorem om3 {a b c : Nat} (h : a < b) (e : b < c) : a ≠ c := Nat.ne_of_lt (Nat.lt_trans h e)
theorem om4 {a b c : Nat} (h : a < b) (e : b < c) : c ≠ a := Nat.ne_of_gt (Nat.lt_trans h e)
theorem sb1 {m j k : Nat} (h : j ≤ k) (e : k ≤ m) : m + 1 - j = m - j + 1 := Nat.succ_sub (Nat.le_trans h e)
theorem sb2 {m j k : Nat} (h : j ≤ k) (e : k ≤ m) : m + 1 - (m - j + 1) = j := (Nat.succ_sub_succ m (m - j)).trans (Nat.sub_sub_self (Nat.le_trans h e))
theorem subS {m k : Nat} (h : k < m) : m - k = m - (k + 1) + 1 := (Nat.succ_pred_eq_of_pos (Nat.sub_pos_of_lt h)).symm
theorem subL {m k : Nat} (h : k < m) : m - (k + 1) < m - k := Nat.sub_lt_sub_left h (Nat.lt_succ_self k)
theorem sb7 {m k : Nat} : m - 1 - k = m - (k + 1) := by rw [Nat.sub_sub, Nat.add_comm]
theorem prS {n : Nat} (h : 0 < n) : n = n - 1 + 1 := (Nat.succ_pred_eq_of_pos h).symm
theorem sb3 {m j k : Nat} (h : j ≤ k) (e : k < m) : m - j = m - (j + 1) + 1 := subS (Nat.lt_of_le_of_lt h e)
theorem sb4 {m j k : Nat} (h : j ≤ k) (e : k < m) : 0 < m - j := Nat.sub_pos_of_lt (Nat.lt_of_le_of_lt h e)
theorem sb5 {m j k : Nat} (h : j ≤ k) (e : k < m) : m - (j + 1) < m - j := subL (Nat.lt_of_le_of_lt h e)
theorem sb6 {j k : Nat} (h : j ≤ k) (n : ¬ j = k) : j + 1 ≤ k := Nat.lt_of_le_of_ne h n
structure Gnd (w : World) (mg mb : Str → Option Value) (h₀ : Heap) : Prop where
  k : (Mine.hd.heap_39 w.params).In h₀
  t : ∃ pm : Program × List Str × (ExcName → Option Value), Top pm.1 pm.2.1 pm.2.2 mg mb h₀

theorem Gnd.keeps {w : World} {mg mb : Str → Option Value} {h h' : Heap} (G : Gnd w mg mb h) (st : h.StaysIn h') : Gnd w mg mb h' :=
  ⟨G.k.keeps st, let ⟨me, T⟩ := G.t; ⟨me, T.keeps st⟩⟩

noncomputable def Keep (mods : List Addr) (h h' : Heap) : Prop := ∀ b o, b ∉ mods → h.get? b = some o → h'.get? b = some o
theorem Keep.refl (mods : List Addr) (h : Heap) : Keep mods h h := fun _ _ _ e => e
theorem Keep.trans {mods : List Addr} {h h' h'' : Heap} (a : Keep mods h h') (b : Keep mods h' h'') : Keep mods h h'' := fun x o n e => b x o n (a x o n e)
theorem Keep.mono {mods mods' : List Addr} {h h' : Heap} (a : Keep mods h h') (s : ∀ x ∈ mods, x ∈ mods') : Keep mods' h h' := fun x o n e => a x o (fun q => n (s x q)) e
theorem Keep.stays {mods : List Addr} {h₀ h h' : Heap} (a : Keep mods h h') (st : h₀.StaysIn h) (hn : ∀ x ∈ mods, h₀.get? x = none) : h₀.StaysIn h' :=
  fun b o e => a b o (fun q => by rw [hn b q] at e; cases e) (st b o e)

noncomputable def Led (h₀ h : Heap) (led : List (Addr × Obj)) : Prop := ∀ p ∈ led, h.get? p.1 = some p.2 ∧ h₀.get? p.1 = none
theorem Led.cons {h₀ h : Heap} {a : Addr} {o : Obj} {l : List (Addr × Obj)} (x : h.get? a = some o ∧ h₀.get? a = none) (y : Led h₀ h l) : Led h₀ h ((a, o) :: l) :=
  fun p hp => by rcases List.mem_cons.mp hp with rfl | hp; exact x; exact y p hp
theorem Led.nil {h₀ h : Heap} : Led h₀ h [] := fun _ hp => nomatch hp
theorem Led.of_news {h₀ g h : Heap} {L : Addr} {news : List (Addr × Obj)} (N : News g L h news) (st : h₀.StaysIn g) : Led h₀ h news := fun p hp =>
  ⟨(N p hp).1, by cases q : h₀.get? p.1 with | none => rfl | some o => have := (N p hp).2.2; rw [st _ _ q] at this; cases this⟩
theorem Led.sub {h₀ h : Heap} {l l' : List (Addr × Obj)} (x : Led h₀ h l) (s : ∀ p ∈ l', p ∈ l) : Led h₀ h l' := fun p hp => x p (s p hp)
theorem Led.keep {h₀ h h' : Heap} {mods : List Addr} {l : List (Addr × Obj)} (x : Led h₀ h l) (k : Keep mods h h') (n : ∀ p ∈ l, p.1 ∉ mods) : Led h₀ h' l :=
  fun p hp => ⟨k _ _ (n p hp) (x p hp).1, (x p hp).2⟩

structure In (h₀ : Heap) (need : List (Addr × Obj)) (s : Shared) (g : Heap) (L' : Addr) : Prop where
  base : h₀.StaysIn g
  old : ∀ b o, s.heap.get? b = some o → b ∉ need.map (·.1) → g.get? b = some o
  le : s.heap.objs.size ≤ L'
  lt : ∀ p ∈ need, p.1 < L'

theorem In.keepBack {h₀ : Heap} {need : List (Addr × Obj)} {s : Shared} {g h' : Heap} {L' L'' : Addr} {m : Str → Option Value} (I : In h₀ need s g L') (F : Fr g L'' h' m) : Keep (need.map (·.1)) s.heap h' :=
  fun b o n e => F.keep b o (I.old b o e n)
theorem Led.back {h₀ g h : Heap} {L : Addr} {news : List (Addr × Obj)} (N : News g L h news) (st : h₀.StaysIn g) : Led h₀ h news := Led.of_news N st

noncomputable def retQ (R : Result → Shared → Prop) (fl : Flow) (s' : Shared) : Prop := R (.ok (.ret (match fl with | .ret v => v | _ => .none))) s'
theorem enterE {w : World} {mg mb : Str → Option Value} {A : Around} {R : Result → Shared → Prop} {s : Shared} {h₀ : Heap} (G : Gnd w mg mb h₀) (st : h₀.StaysIn s.heap)
    {name qual : Str} {params : Arguments} {body : List Stmt} {scope : Scope} {dV kV doc pm cdv ct oc : Value} {an od : Option Addr} {osl : Array (Option Value)} {f : Addr} {args : Args} {binds : List (Str × Value)}
    (ho : (Mine.hd.heap_39 w.params).lookup f = some ⟨oc, od, .func (fnOf name qual params body scope dV kV doc pm an cdv ct), osl⟩) (hcd : codeIn (Mine.hd.heap_39 w.params) cdv qual = true) (hroom : A.depth < recursionLimit)
    (hbind : BindsTo s (fnOf name qual params body scope dV kV doc pm an cdv ct) args binds) (hloc : ∀ y ∈ binds, scope.names.lookup y.1 = some .local)
    (need : List (Addr × Obj)) (hn : Led h₀ s.heap need)
    (h : ∀ g L' h₁ tk, In h₀ need s g L' → Fr g L' h₁ (fun y => binds.reverse.lookup y) → News g L' h₁ need → Gnd w mg mb g →
      wpAny (model PG w) (A.deeper (envOf qual scope L' f cdv)) (execs body (envOf qual scope L' f cdv)) (retQ R)
        (fun e s' => wpAny (model PG w) (A.deeper (envOf qual scope L' f cdv)) (leaving (envOf qual scope L' f cdv) e) (fun _ s'' => R (.error e) s'') (fun e' s'' => R (.error e') s'') s')
        { s with heap := h₁, toks := tk })
    (hco : scope.isCoroutine = false := by rfl) (hgen : scope.isGenerator = false := by rfl) (hk : scope.kind = .function := by rfl)
    (hcell : ∀ x ∈ scope.names, x.2 ≠ .cell := by decide) : codeAny (model PG w) A (.call (.ref f) args) R s := by
  obtain ⟨me, T⟩ := G.t
  refine codeAny_call_def (fd := fnOf name qual params body scope dV kV doc pm an cdv ct) (body := body) (binds := binds) hroom ((G.k.keeps st) _ _ ho) rfl (T.nolimit.keeps st) (codeRec_of (G.k.keeps st) hcd) rfl hbind hcell hloc (fun h₁ hns hk₁ => ?_) hco hgen hk
  have nm : ∀ b o, h₀.get? b = some o → b ∉ need.map (·.1) := fun b o e q => by
    obtain ⟨p, hp, rfl⟩ := List.mem_map.mp q
    rw [(hn p hp).2] at e; cases e
  have st' : h₀.StaysIn (hideAll s.heap (need.map (·.1))) := fun b o e => hideAll_get _ (st b o e) (nm b o e)
  exact h (hideAll s.heap (need.map (·.1))) s.heap.objs.size h₁ _
    ⟨st', fun b o e n => hideAll_get _ e n, Nat.le_refl _, fun p hp => Heap.lt_size (hn p hp).1⟩
    ⟨hns, fun b o e => hk₁ b o (of_hideAll _ e), Nat.le_of_eq (hideAll_size _ _)⟩
    (fun p hp => ⟨hk₁ _ _ (hn p hp).1, Nat.ne_of_lt (Heap.lt_size (hn p hp).1), hideAll_none _ (List.mem_map_of_mem hp)⟩) (G.keeps st')

theorem enter {w : World} {mg mb : Str → Option Value} {A : Around} {R : Result → Shared → Prop} {s : Shared} {h₀ : Heap} (G : Gnd w mg mb h₀) (st : h₀.StaysIn s.heap)
    {name qual : Str} {params : Arguments} {body : List Stmt} {scope : Scope} {dV kV doc pm cdv ct oc : Value} {an od : Option Addr} {osl : Array (Option Value)} {f : Addr} {args : Args} {binds : List (Str × Value)}
    (ho : (Mine.hd.heap_39 w.params).lookup f = some ⟨oc, od, .func (fnOf name qual params body scope dV kV doc pm an cdv ct), osl⟩) (hcd : codeIn (Mine.hd.heap_39 w.params) cdv qual = true) (hroom : A.depth < recursionLimit)
    (hbind : BindsTo s (fnOf name qual params body scope dV kV doc pm an cdv ct) args binds) (hloc : ∀ y ∈ binds, scope.names.lookup y.1 = some .local)
    (need : List (Addr × Obj)) (hn : Led h₀ s.heap need)
    (h : ∀ g L' h₁ tk, In h₀ need s g L' → Fr g L' h₁ (fun y => binds.reverse.lookup y) → News g L' h₁ need → Gnd w mg mb g →
      wpAny (model PG w) (A.deeper (envOf qual scope L' f cdv)) (execs body (envOf qual scope L' f cdv)) (retQ R)
        (fun _ _ => False) { s with heap := h₁, toks := tk })
    (hco : scope.isCoroutine = false := by rfl) (hgen : scope.isGenerator = false := by rfl) (hk : scope.kind = .function := by rfl)
    (hcell : ∀ x ∈ scope.names, x.2 ≠ .cell := by decide) : codeAny (model PG w) A (.call (.ref f) args) R s :=
  enterE G st ho hcd hroom hbind hloc need hn (fun g L' h₁ tk I F N G' => wpAny_mono (h g L' h₁ tk I F N G') (fun _ _ x => x) (fun _ _ x => x.elim)) hco hgen hk hcell

theorem Fr.after {g h h' : Heap} {L : Addr} {m : Str → Option Value} {mods : List Addr} (F : Fr g L h m) (k : Keep mods h h') (hL : L ∉ mods) (hg : ∀ a ∈ mods, g.get? a = none) : Fr g L h' m :=
  ⟨let ⟨o, es, ep, e, r⟩ := F.ns; ⟨o, es, ep, k _ _ hL e, r⟩, fun b o e => k b o (fun q => by rw [hg b q] at e; cases e) (F.keep b o e), F.above⟩

theorem News.after {g h h' : Heap} {L : Addr} {rest : List (Addr × Obj)} {mods : List Addr} (N : News g L h rest) (k : Keep mods h h') (n : ∀ p ∈ rest, p.1 ∉ mods) : News g L h' rest :=
  fun p hp => ⟨k _ _ (n p hp) (N p hp).1, (N p hp).2⟩
end Mine
end
namespace Mine
section
open PySem PySem.W PySem.Calls PyProof.Rows
set_option maxRecDepth 100000
local macro_rules | `(tactic| walk_at "oc") => `(tactic| with_reducible first | exact And.left (by assumption) | exact And.left (And.right (by assumption)) | exact And.left (And.right (And.right (by assumption))) | exact And.left (And.right (And.right (And.right (by assumption)))) | exact And.left (And.right (And.right (And.right (And.right (by assumption))))) | exact And.left (And.right (And.right (And.right (And.right (And.right (by assumption)))))) | exact And.left (And.right (And.right (And.right (And.right (And.right (And.right (by assumption))))))) | exact And.left (And.right (And.right (And.right (And.right (And.right (And.right (And.right (by assumption)))))))) | exact And.right (by assumption) | exact And.right (And.right (by assumption)) | exact And.right (And.right (And.right (by assumption))) | exact And.right (And.right (And.right (And.right (by assumption)))) | exact And.right (And.right (And.right (And.right (And.right (by assumption))))) | exact And.right (And.right (And.right (And.right (And.right (And.right (by assumption)))))) | exact And.right (And.right (And.right (And.right (And.right (And.right (And.right (by assumption))))))) | exact And.right (And.right (And.right (And.right (And.right (And.right (And.right (And.right (by assumption)))))))))
local macro_rules | `(tactic| walk_at "omt") => `(tactic| with_reducible first | assumption | exact Nat.lt_trans (by assumption) (by walk_at "omt"))
local macro_rules | `(tactic| walk_at "ox") => `(tactic| first | walk_at "omt" | walk_at "oc")
local macro_rules | `(tactic| walk_at "om") => `(tactic| first | (with_reducible first | exact Nat.lt_of_lt_of_le (by assumption) (by decide) | exact om1 (by assumption) (by decide) | exact om2 (by assumption) (by decide) | exact Nat.ne_of_lt (by walk_at "ox") | exact Nat.ne_of_gt (by walk_at "ox") | walk_at "ox" | exact Nat.le_of_lt (by walk_at "omt") | exact Nat.le_trans (by assumption) (by decide) | exact Int.natCast_nonneg _) | lia | omega)
local macro_rules | `(tactic| k_ne) => `(tactic| (refine neN ?_; (try dsimp only); walk_at "om"))
local macro_rules | `(tactic| k_size) => `(tactic| exact Nat.le_of_ble_eq_true rfl)
section
set_option maxRecDepth 100000
section
variable {w : World} {mg mb : Str → Option Value} {A : Around} {R : Result → Shared → Prop} {s : Shared} {h₀ : Heap}
theorem enterCE (G : Gnd w mg mb h₀) (st : h₀.StaysIn s.heap)
    {name qual : Str} {params : Arguments} {body : List Stmt} {scope : Scope} {dV kV doc pm cdv ct oc : Value} {an od : Option Addr} {osl : Array (Option Value)} {f : Addr} {args : Args} {binds : List (Str × Value)}
    (ho : (Mine.hd.heap_39 w.params).lookup f = some ⟨oc, od, .func (fnX name qual params body scope [] dV kV doc pm an cdv ct), osl⟩) (hcd : codeIn (Mine.hd.heap_39 w.params) cdv qual = true) (hroom : A.depth < recursionLimit)
    (hbind : BindsTo s (fnX name qual params body scope [] dV kV doc pm an cdv ct) args binds)
    (hkind : (binds.all fun y => scope.names.lookup y.1 == some .local || scope.names.lookup y.1 == some .cell) = true)
    (hnd : ((cellsFrom 0 scope.names []).map (·.1)).Nodup)
    (need : List (Addr × Obj)) (hn : Led h₀ s.heap need)
    (h : ∀ g L' h₁ tk cells, In h₀ need s g L' → Fr g L' h₁ (bindL (envOfC qual scope L' f cdv).kindOf binds fun _ => none) → News g L' h₁ (cells ++ need) →
      CellsAre (bindC (envOfC qual scope L' f cdv).kindOf binds fun _ => none) (cellsFrom (L' + 1) scope.names []) cells → Gnd w mg mb g →
      wpAny (model PG w) (A.deeper (envOfC qual scope L' f cdv)) (execs body (envOfC qual scope L' f cdv)) (retQ R)
        (fun e s' => wpAny (model PG w) (A.deeper (envOfC qual scope L' f cdv)) (leaving (envOfC qual scope L' f cdv) e) (fun _ s'' => R (.error e) s'') (fun e' s'' => R (.error e') s'') s')
        { s with heap := h₁, toks := tk })
    (hco : scope.isCoroutine = false := by rfl) (hgen : scope.isGenerator = false := by rfl) (hk : scope.kind = .function := by rfl) : codeAny (model PG w) A (.call (.ref f) args) R s := by
  obtain ⟨me, T⟩ := G.t
  refine codeAny_call_function hroom ((G.k.keeps st) _ _ ho) rfl hco hgen rfl (codeRec_of (G.k.keeps st) hcd) (hbind _ _ _ _ ?_)
  refine wpAny_newFunctionEnv_cells hk (kindsX hkind _) fun env' he s' x => ?_
  subst he
  refine ⟨(T.nolimit.keeps st).keeps x.toInCall.keep, codeAny_func ?_⟩
  obtain ⟨h₁, tk, rfl, _⟩ := x.done
  have hk₁ := x.toInCall.keep
  obtain ⟨cells, NC, Y⟩ := Cl.news (h₀ := s.heap) (Nat.le_refl _) fun n c hm => ⟨x.cell n c (lookup_of_mem_nodup (cellsFrom_names scope.names 0 (s.heap.objs.size + 1) [] [] rfl ▸ hnd) hm), x.above n c hm⟩
  have nm : ∀ b o, h₀.get? b = some o → b ∉ need.map (·.1) := fun b o e q => by
    obtain ⟨p, hp, rfl⟩ := List.mem_map.mp q
    rw [(hn p hp).2] at e; cases e
  have st' : h₀.StaysIn (hideAll s.heap (need.map (·.1))) := fun b o e => hideAll_get _ (st b o e) (nm b o e)
  refine h (hideAll s.heap (need.map (·.1))) s.heap.objs.size h₁ tk cells
    ⟨st', fun b o e n => hideAll_get _ e n, Nat.le_refl _, fun p hp => Heap.lt_size (hn p hp).1⟩
    ⟨x.toInCall.ns, fun b o e => hk₁ b o (of_hideAll _ e), Nat.le_of_eq (hideAll_size _ _)⟩ (fun p hp => ?_) Y (G.keeps st')
  rcases List.mem_append.mp hp with hp | hp
  · refine ⟨(NC p hp).1, (NC p hp).2.1, ?_⟩
    cases q : (hideAll s.heap (need.map (·.1))).get? p.1 with
    | none => rfl
    | some o => have := of_hideAll _ q; rw [(NC p hp).2.2] at this; cases this
  · exact ⟨hk₁ _ _ (hn p hp).1, Nat.ne_of_lt (Heap.lt_size (hn p hp).1), hideAll_none _ (List.mem_map_of_mem hp)⟩
theorem enterC (G : Gnd w mg mb h₀) (st : h₀.StaysIn s.heap)
    {name qual : Str} {params : Arguments} {body : List Stmt} {scope : Scope} {dV kV doc pm cdv ct oc : Value} {an od : Option Addr} {osl : Array (Option Value)} {f : Addr} {args : Args} {binds : List (Str × Value)}
    (ho : (Mine.hd.heap_39 w.params).lookup f = some ⟨oc, od, .func (fnX name qual params body scope [] dV kV doc pm an cdv ct), osl⟩) (hcd : codeIn (Mine.hd.heap_39 w.params) cdv qual = true) (hroom : A.depth < recursionLimit)
    (hbind : BindsTo s (fnX name qual params body scope [] dV kV doc pm an cdv ct) args binds)
    (hkind : (binds.all fun y => scope.names.lookup y.1 == some .local || scope.names.lookup y.1 == some .cell) = true)
    (hnd : ((cellsFrom 0 scope.names []).map (·.1)).Nodup)
    (need : List (Addr × Obj)) (hn : Led h₀ s.heap need)
    (h : ∀ g L' h₁ tk cells, In h₀ need s g L' → Fr g L' h₁ (bindL (envOfC qual scope L' f cdv).kindOf binds fun _ => none) → News g L' h₁ (cells ++ need) →
      CellsAre (bindC (envOfC qual scope L' f cdv).kindOf binds fun _ => none) (cellsFrom (L' + 1) scope.names []) cells → Gnd w mg mb g →
      wpAny (model PG w) (A.deeper (envOfC qual scope L' f cdv)) (execs body (envOfC qual scope L' f cdv)) (retQ R)
        (fun _ _ => False) { s with heap := h₁, toks := tk })
    (hco : scope.isCoroutine = false := by rfl) (hgen : scope.isGenerator = false := by rfl) (hk : scope.kind = .function := by rfl) : codeAny (model PG w) A (.call (.ref f) args) R s :=
  enterCE G st ho hcd hroom hbind hkind hnd need hn (fun g L' h₁ tk cells I F N Y G' => wpAny_mono (h g L' h₁ tk cells I F N Y G') (fun _ _ x => x) (fun _ _ x => x.elim)) hco hgen hk
theorem enterL (G : Gnd w mg mb h₀) (st : h₀.StaysIn s.heap)
    {name qual : Str} {params : Arguments} {body : Expr} {scope : Scope} {cl : List (Str × Addr)} {pm ctv : Value} {c' : Addr} {f : Addr} {args : Args} {binds : List (Str × Value)}
    (ho : s.heap.get? f = some (kla_obj name qual params body scope cl pm c' ctv)) (hcd : s.heap.CodeRec (.ref c') qual) (hroom : A.depth < recursionLimit)
    (hbind : bindArgs (kla_fn name qual params body scope cl pm (.ref c') ctv) args = pure binds) (hloc : ∀ y ∈ binds, scope.names.lookup y.1 = some .local)
    (need : List (Addr × Obj)) (hn : Led h₀ s.heap need)
    (h : ∀ g L' h₁ tk, In h₀ need s g L' → Fr g L' h₁ (fun y => binds.reverse.lookup y) → News g L' h₁ need → Gnd w mg mb g →
      wpAny (model PG w) (A.deeper (envX qual scope L' f (.ref c') cl)) (eval body (envX qual scope L' f (.ref c') cl)) (fun v s' => R (.ok (.ret v)) s') (fun _ _ => False) { s with heap := h₁, toks := tk })
    (hco : scope.isCoroutine = false) (hgen : scope.isGenerator = false) (hk : scope.kind = .function)
    (hcell : ∀ x ∈ scope.names, x.2 ≠ .cell) : codeAny (model PG w) A (.call (.ref f) args) R s := by
  obtain ⟨me, T⟩ := G.t
  refine kla_callFunE hroom ho rfl hco hgen rfl hcd ?_
  rw [hbind]
  refine wpAny_pure (wpAny_newFunctionEnv hcell hloc (fun h₁ hns hsb => ⟨(T.nolimit.keeps st).fresh _ hsb, ?_⟩) hk)
  show codeAny _ _ (.expr body (envX qual scope s.heap.objs.size f (.ref c') cl)) _ _
  have hk₁ : ∀ b o, s.heap.get? b = some o → h₁.get? b = some o := fun b o e => hsb.extBut b o (Nat.ne_of_lt (Heap.lt_size e)) (Heap.get?_push_of_some _ e)
  have nm : ∀ b o, h₀.get? b = some o → b ∉ need.map (·.1) := fun b o e q => by
    obtain ⟨p, hp, rfl⟩ := List.mem_map.mp q
    rw [(hn p hp).2] at e; cases e
  have st' : h₀.StaysIn (hideAll s.heap (need.map (·.1))) := fun b o e => hideAll_get _ (st b o e) (nm b o e)
  exact kla_codeExpr (wpAny_mono (h (hideAll s.heap (need.map (·.1))) s.heap.objs.size h₁ _
    ⟨st', fun b o e n => hideAll_get _ e n, Nat.le_refl _, fun p hp => Heap.lt_size (hn p hp).1⟩
    ⟨hns, fun b o e => hk₁ b o (of_hideAll _ e), Nat.le_of_eq (hideAll_size _ _)⟩
    (fun p hp => ⟨hk₁ _ _ (hn p hp).1, Nat.ne_of_lt (Heap.lt_size (hn p hp).1), hideAll_none _ (List.mem_map_of_mem hp)⟩) (G.keeps st')) (fun _ _ y => y) fun _ _ y => y.elim)
end
theorem News.told {g h h' : Heap} {L : Addr} {news news' : List (Addr × Obj)} (N : News g L h news) (hm : news'.map (·.1) = news.map (·.1)) (hv : ∀ p ∈ news', h'.get? p.1 = some p.2) : News g L h' news' := fun p hp => by
  have : p.1 ∈ news.map (·.1) := hm ▸ List.mem_map_of_mem hp
  obtain ⟨q, hq, e⟩ := List.mem_map.mp this
  exact ⟨hv p hp, e ▸ (N q hq).2.1, e ▸ (N q hq).2.2⟩
theorem News.more {g h h' : Heap} {L : Addr} {m : Str → Option Value} {news news' : List (Addr × Obj)} (F : Fr g L h m) (N : News g L h' news) (hv : ∀ p ∈ news', h'.get? p.1 = some p.2 ∧ h.get? p.1 = none) : News g L h' (news' ++ news) := fun p hp => by
  rcases List.mem_append.mp hp with hp | hp
  · obtain ⟨h1, h2⟩ := hv p hp
    refine ⟨h1, fun q => ?_, ?_⟩
    · obtain ⟨o, _, _, e, _⟩ := F.ns
      rw [q, e] at h2; cases h2
    · cases q : g.get? p.1 with
      | none => rfl
      | some o => rw [F.keep _ _ q] at h2; cases h2
  · exact N p hp
theorem News.ne {g h : Heap} {L a : Addr} {news : List (Addr × Obj)} (N : News g L h news) (ha : h.get? a = none) : ∀ p ∈ news, p.1 ≠ a := fun p hp e => by
  have := (N p hp).1; rw [e, ha] at this; cases this
theorem News.led {g h : Heap} {L : Addr} {news : List (Addr × Obj)} (N : News g L h news) : Led g h news := fun p hp => ⟨(N p hp).1, (N p hp).2.2⟩
theorem pickP {P : Addr × Obj → Prop} {l : List (Addr × Obj)} (h : ∀ p ∈ l, P p) (is : List Nat) {rest : List (Addr × Obj)} (hr : ∀ p ∈ rest, P p) : ∀ p ∈ is.filterMap (fun i => l[i]?) ++ rest, P p := fun p hp => by
  rcases List.mem_append.mp hp with hp | hp
  · obtain ⟨i, _, e⟩ := List.mem_filterMap.mp hp
    exact h p (List.mem_of_getElem? e)
  · exact hr p hp
theorem nilP {P : Addr × Obj → Prop} : ∀ p ∈ ([] : List (Addr × Obj)), P p := fun _ h => nomatch h
theorem dropP {P : Addr × Obj → Prop} {l : List (Addr × Obj)} (h : ∀ p ∈ l, P p) (n : Nat) : ∀ p ∈ l.drop n, P p := fun p hp => h p (List.mem_of_mem_drop hp)
theorem leftP {P : Addr × Obj → Prop} {l l' : List (Addr × Obj)} (h : ∀ p ∈ l ++ l', P p) : ∀ p ∈ l, P p := fun p hp => h p (List.mem_append_left _ hp)
theorem rightP {P : Addr × Obj → Prop} {l l' : List (Addr × Obj)} (h : ∀ p ∈ l ++ l', P p) : ∀ p ∈ l', P p := fun p hp => h p (List.mem_append_right _ hp)
theorem appP {P : Addr × Obj → Prop} {l l' : List (Addr × Obj)} (h : ∀ p ∈ l, P p) (h' : ∀ p ∈ l', P p) : ∀ p ∈ l ++ l', P p := fun p hp => (List.mem_append.mp hp).elim (h p) (h' p)
theorem consP {P : Addr × Obj → Prop} {a : Addr × Obj} {l : List (Addr × Obj)} (h : P a) (h' : ∀ p ∈ l, P p) : ∀ p ∈ a :: l, P p := List.forall_mem_cons.mpr ⟨h, h'⟩
theorem atM {l : List (Addr × Obj)} (i : Nat) {p : Addr × Obj} (h : l[i]? = some p) : p ∈ l := List.mem_of_getElem? h
theorem Fr.fresh {g h h' : Heap} {L q : Addr} {o : Obj} {m : Str → Option Value} (F : Fr g L h m) (fq : h.get? q = none) (eq : h'.get? q = some o) : h'.get? q = some o ∧ q ≠ L ∧ g.get? q = none := by
  refine ⟨eq, fun e => ?_, ?_⟩
  · obtain ⟨oL, _, _, eL, _⟩ := F.ns
    rw [e, eL] at fq; cases fq
  · cases z : g.get? q with
    | none => rfl
    | some o => have := F.keep _ _ z; rw [fq] at this; cases this
theorem Keep.of_all {mods : List Addr} {h h' : Heap} (k : ∀ b o, h.get? b = some o → h'.get? b = some o) : Keep mods h h' := fun b o _ e => k b o e
theorem Keep.all {h h' : Heap} (k : Keep [] h h') : ∀ b o, h.get? b = some o → h'.get? b = some o := fun b o e => k b o (by simp) e
theorem In.fresh {h₀ g : Heap} {need : List (Addr × Obj)} {s : Shared} {L' a : Addr} (I : In h₀ need s g L') (h : g.get? a = none) (hn : a ∉ need.map (·.1)) : s.heap.get? a = none := by
  cases q : s.heap.get? a with
  | none => rfl
  | some o => rw [I.old _ _ q hn] at h; cases h
end
section
open PySem PySem.W PySem.Calls PyProof.Rows PySem.Builtin PySem.Builtin.Re
set_option maxRecDepth 100000
section
variable {M : Model} {A : Around} {E : Value → Shared → Prop} {s : Shared}
theorem wp_drive {r : Option (Nat × Nat)} {Q : Sre.M → Shared → Prop} (hQ : ∀ m', Ends r m' → Q m' s) : ∀ (turns n : Nat) (m : Sre.M), Gets n r m → n < 4 * turns → wpAny M A (reDrive turns m) Q E s
  | 0, _, _, _, h => absurd h (by (first | lia | omega))
  | k + 1, n, m, g, h => by
    unfold reDrive
    dsimp only
    rw [show reTurnSteps = 4 from rfl, runFor_it]
    split
    · rename_i hd
      refine wpAny_pure (hQ _ ?_)
      by_cases hn : n ≤ 4
      · exact g.le hn
      · have g' : Ends r (it n m) := g
        rw [it_le hd (by (first | lia | omega))] at g'; exact g'
    · rename_i hd
      have hn : 4 < n := by
        apply Nat.lt_of_not_le
        intro q
        exact hd (g.le q).some
      refine wpAny_bind (wpAny_rule (wp_drive hQ k (n - 4) _ ?_ (by (first | lia | omega))))
      have g' : Ends r (it n m) := g
      rw [show n = 4 + (n - 4) by (first | lia | omega), it_add] at g'
      exact g'
theorem wp_rules {body : Nat → PUnit → Sem (ForInStep PUnit)} {Q : PUnit → Shared → Prop} (hb : ∀ i (Q' : ForInStep PUnit → Shared → Prop), Q' (.yield ⟨⟩) s → wpAny M A (body i ⟨⟩) Q' E s) (h : Q ⟨⟩ s) : ∀ l : List Nat, wpAny M A (forIn l PUnit.unit body) Q E s
  | [] => wpAny_pure h
  | i :: l => by
    rw [List.forIn_cons]
    exact wpAny_bind (hb i _ (wp_rules hb h l))
theorem wp_toEnd {r : Option (Nat × Nat)} {n : Nat} {m : Sre.M} {Q : Option Sre.M → Shared → Prop} (g : Gets n r m) (hn : n < 4 * 2 ^ 64) (hs : ∀ m' a b, r = some (a, b) → m'.start = a → m'.handed = b → Q (some m') s) (h0 : r = none → Q none s) :
    wpAny M A (reRunToEnd m) Q E s := by
  unfold reRunToEnd
  refine wpAny_bind (wp_drive (r := r) (fun m' he => ?_) (2 ^ 64) n m g hn)
  refine wpAny_bind (wp_rules (fun i Q' hq => ?_) ?_ _)
  · split
    · exact wpAny_bind (wpAny_rule (wpAny_pure hq))
    · exact wpAny_bind (wpAny_pure (wpAny_pure hq))
  cases r with
  | none =>
    have : m'.outcome = some .failed := he
    rw [this]
    exact wpAny_pure (h0 rfl)
  | some p =>
    obtain ⟨a, b⟩ := p
    obtain ⟨h1, h2, h3⟩ := (he : m'.outcome = some .matched ∧ m'.start = a ∧ m'.handed = b)
    rw [h1]
    exact wpAny_pure (hs m' a b rfl h2 h3)
end
noncomputable def subAll (find : Nat → Option (Nat × Nat)) (text : Array Nat) (rp : Array Nat) : Nat → Nat → Array Nat
  | 0, p => text.extract p text.size
  | f + 1, p => match find p with
    | none => text.extract p text.size
    | some (a, b) => text.extract p a ++ rp ++ subAll find text rp f b
theorem subAll_succ (find : Nat → Option (Nat × Nat)) (text rp : Array Nat) (f p : Nat) : subAll find text rp (f + 1) p = match find p with
    | none => text.extract p text.size
    | some (a, b) => text.extract p a ++ rp ++ subAll find text rp f b := rfl
structure FindOk (find : Nat → Option (Nat × Nat)) (z : Nat) : Prop where
  some : ∀ p a b, p ≤ z → find p = some (a, b) → p ≤ a ∧ a < b ∧ b ≤ z
structure IsPat (h : Heap) (P : Addr) (code : Array Nat) : Prop where
  has : ∃ o fs T ot, h.get? P = some o ∧ o.cls = .type "re.Pattern" ∧ o.dict = none ∧ o.data = .fields fs ∧ fs[5]? = some (.ref T) ∧ fs[6]? = some (.int 0 0) ∧ fs[2]? = some (.int 0 0) ∧ h.get? T = some ot ∧ ∃ vs n, ot.data = .seq vs n ∧ (vs.map reRawOf).map (·.toNat) = code
theorem IsPat.keeps {h h' : Heap} {P : Addr} {code : Array Nat} (x : IsPat h P code) (k : ∀ b o, h.get? b = some o → h'.get? b = some o) : IsPat h' P code := by
  obtain ⟨o, fs, T, ot, h1, h2, h3, h4, h5, h6, h7, h8, vs, n, h9, h10⟩ := x.has
  exact ⟨o, fs, T, ot, k _ _ h1, h2, h3, h4, h5, h6, h7, k _ _ h8, vs, n, h9, h10⟩
section
variable {prog : Program} {w : World} {A : Around} {E : Value → Shared → Prop} {s : Shared}
theorem wp_target {P : Addr} {code : Array Nat} {x : Str} {t : Tok} {Q : ReTarget → Shared → Prop} (I : IsPat s.heap P code)
    (h : Q { pattern := .ref P, string := .str x t, code, text := x.cps, kind := 0, groups := 0, pos := 0, lim := x.cps.size } s) : wpAny (model prog w) A (reWholeTarget (.ref P) (.str x t)) Q E s := by
  obtain ⟨o, fs, T, ot, h1, h2, h3, h4, h5, h6, h7, h8, vs, n, h9, h10⟩ := I.has
  unfold reWholeTarget
  refine wpAny_bind (wpAny_fieldsOf h1 h4 ?_)
  have e5 : fs.getD 5 .none = .ref T := by simp [Array.getD_eq_getD_getElem?, h5]
  have e6 : fs.getD 6 .none = .int 0 0 := by simp [Array.getD_eq_getD_getElem?, h6]
  have e2 : fs.getD 2 .none = .int 0 0 := by simp [Array.getD_eq_getD_getElem?, h7]
  refine wpAny_bind (wpAny_of_eq (show reTextOf (.str x t) = pure (x.cps, 0) from rfl) ?_)
  dsimp only
  rw [e5, e6, e2]
  rw [if_neg (by decide)]
  rw [if_neg (by decide)]
  refine wpAny_bind (wpAny_of_eq (show reNoCollectionInside (.str x t) 0 = pure () from rfl) ?_)
  refine wpAny_bind ?_
  unfold reRawItems
  refine wpAny_bind (wpAny_seqItems h8 h9 (wpAny_pure (wpAny_pure ?_)))
  dsimp only [Option.getD]
  rw [h10]
  exact h
theorem entry_sub_loop : entryFor table "re.Pattern.sub.loop" = some Builtin.«re.Pattern.sub.loop» := entryFor_of_tree (by kernel_rfl)
theorem plain_sub_loop : plainId "re.Pattern.sub.loop" = true := by decide +kernel
theorem glued_empty (l : List Str) : ∀ acc : Array Nat, l.foldl (fun acc p => acc ++ (Str.mk #[]).cps ++ p.cps) acc = l.foldl (fun acc p => acc ++ p.cps) acc := by
  induction l with
  | nil => intro _; rfl
  | cons p r ih => intro acc; rw [List.foldl_cons, List.foldl_cons, ih]; simp
noncomputable def cat (l : List Str) : Array Nat := l.foldl (fun acc p => acc ++ p.cps) #[]
theorem cat_from (l : List Str) : ∀ acc : Array Nat, l.foldl (fun acc p => acc ++ p.cps) acc = acc ++ cat l := by
  unfold cat
  induction l with
  | nil => intro acc; simp
  | cons p r ih => intro acc; rw [List.foldl_cons, ih, List.foldl_cons, ih (#[] ++ p.cps)]; simp [Array.append_assoc]
theorem cat_snoc (l : List Str) (x : Str) : cat (l ++ [x]) = cat l ++ x.cps := by
  unfold cat; rw [List.foldl_append]; rfl
theorem cat_cons (l : List Str) (x : Str) : cat (x :: l) = x.cps ++ cat l := by
  show l.foldl _ (#[] ++ x.cps) = _
  rw [cat_from]; simp
theorem glued_cat (l : List Str) : (PySem.Builtin.Str.glued (Str.mk #[]) l) = Str.mk (cat l) := by
  unfold PySem.Builtin.Str.glued
  rw [glued_empty]
  cases l with
  | nil => rfl
  | cons x r =>
    rw [cat_from, cat_cons]; rfl
theorem len_fold (l : List Str) : ∀ k : Nat, l.toArray.foldl (fun k p => k + p.length + (Str.mk #[]).length) k = k + (cat l).size := by
  intro k
  rw [List.foldl_toArray]
  induction l generalizing k with
  | nil => rfl
  | cons x r ih =>
    rw [List.foldl_cons, ih, cat_cons, Array.size_append]
    show k + x.cps.size + 0 + _ = _
    (first | lia | omega)
theorem wp_join {D : Addr} {l : List (Str × Tok)} {t : Tok} {Q : Value → Shared → Prop} (hl : s.heap.IsList D (strValues l).toArray) (hz : (cat (l.map (·.1))).size ≤ sizeLine)
    (h : ∀ t' k, Q (.str (Str.mk (cat (l.map (·.1)))) t') { s with toks := k }) : wpAny (model prog w) A (call (.builtin "str.join") [.str (Str.mk #[]) t, .ref D]) Q E s := by
  have g := meets_str_join_list (Str.mk #[]) t D l (by
    unfold PySem.Builtin.Str.tooLong
    rw [len_fold, Nat.zero_add]
    exact decide_eq_false (by (first | lia | omega)))
  refine call_meets PySem.F.slot_str_join (typeIs_str s _ _) PySem.F.entry_str_join (PySem.F.args_str_join_2 _ _) g ?_
  refine ⟨hl, ?_⟩
  unfold joinMade
  split
  · rename_i p
    have := h p.2 s.toks
    have e : Str.mk (cat ([p].map (·.1))) = p.1 := by
      show Str.mk (#[] ++ p.1.cps) = p.1
      simp
    rw [e] at this
    exact this
  · rw [glued_cat]
    exact ⟨hz, h _ _⟩
theorem push_str (l : List (Str × Tok)) (x : Str) (t : Tok) : (strValues l).toArray.push (.str x t) = (strValues (l ++ [(x, t)])).toArray := by
  unfold strValues; simp
theorem ne_none (x : Str) (t : Tok) : (Value.str x t != Value.none) = true := by rfl
theorem wp_piece {D : Addr} {l : List (Str × Tok)} {k : Nat} {x : Str} {t : Tok} {h₀ : Heap} {Q : Unit → Shared → Prop} (hD : s.heap.get? D = some (listOf (strValues l).toArray k)) (hl : l.length ≤ 10000000) (hD0 : h₀.get? D = none) (hk : ∀ b o, h₀.get? b = some o → s.heap.get? b = some o)
    (h : ∀ h' k', h'.get? D = some (listOf (strValues (l ++ [(x, t)])).toArray k') → Heap.SameBut D s.heap h' → (∀ b o, h₀.get? b = some o → h'.get? b = some o) → Q () { s with heap := h' }) :
    wpAny (model prog w) A (updateSeq D fun y => y.push (.str x t)) Q E s := by
  have hs : Heap.SameBut D s.heap (s.heap.update D (Obj.mapSeq fun y => y.push (.str x t))) := Heap.SameBut.update ..
  have hz : (strValues l).toArray.size = l.length := by simp [strValues]
  refine wpAny_updateSeq hD rfl (h _ (k + 1) ?_ hs fun b o e => (hs.2 b (fun q => by rw [q, hD0] at e; cases e)).trans (hk b o e)) (by rw [hz, sizeLine_eq]; (first | lia | omega)) (by rw [Array.size_push, hz, sizeLine_eq]; (first | lia | omega))
  rw [Heap.get?_update_self _ hD rfl, ← push_str, Obj.mapSeq_push_plain]
theorem sl1 {c p a b : Nat} (hc : c ≤ 3 * p) (h1 : p ≤ a) (h2 : a < b) : c + (a - p) + 2 ≤ 3 * b := by
  obtain ⟨d, rfl⟩ := Nat.exists_eq_add_of_le h1
  rw [Nat.add_sub_cancel_left]
  lia
theorem sl2 {c p b : Nat} (hc : c ≤ 3 * p) (h : p < b) : c + 2 ≤ 3 * b := by lia
theorem sl3 {c p z : Nat} (hc : c ≤ 3 * p) (h : p ≤ z) (hz : z ≤ 1000000) : c + (z - p) ≤ 16777216 := by
  obtain ⟨d, rfl⟩ := Nat.exists_eq_add_of_le h
  rw [Nat.add_sub_cancel_left]
  lia
theorem sub_loop {P D : Addr} {code : Array Nat} {x rp : Str} {t tr : Tok} {R : Result → Shared → Prop} {find : Nat → Option (Nat × Nat)} {h₀ : Heap} (O : FindOk find x.cps.size) (hrp : rp.cps.size = 2) (hz : x.cps.size ≤ 1000000)
    (hfind : ∀ p must, p ≤ x.cps.size → Gets (5 * (x.cps.size + 100)) (find p) (Sre.forSearch code x.cps 0 p x.cps.size must)) (I₀ : IsPat h₀ P code) (hD0 : h₀.get? D = none) :
    ∀ (f p : Nat) (n : Int) (l : List (Str × Tok)) (k : Nat) (s : Shared) (must : Bool), x.cps.size - p < f → p ≤ x.cps.size → s.heap.get? D = some (listOf (strValues l).toArray k) → l.length ≤ 2 * p → (cat (l.map (·.1))).size ≤ 3 * p →
    (∀ b o, h₀.get? b = some o → s.heap.get? b = some o) →
    (∀ h' t' k', Heap.SameBut D s.heap h' → R (.ok (.ret (.str (Str.mk (cat (l.map (·.1)) ++ subAll find x.cps rp.cps f p)) t'))) { s with heap := h', toks := k' }) →
    codeAny (model prog w) A (.builtin "re.Pattern.sub.loop" ⟨[.ref P, .str x t, .str rp tr, rawInt 0, rawInt 0, rawInt n, rawInt p, rawInt p, .bool must, .ref D, .bool false], []⟩) R s := by
  intro f
  induction f with
  | zero => intro p n l k s must hf; (first | lia | omega)
  | succ f ih =>
    intro p n l k s must hf hp hD hl hc hk hR
    refine codeAny_builtin entry_sub_loop ?_
    rw [Around.under_plainId plain_sub_loop]
    unfold Builtin.«re.Pattern.sub.loop»
    dsimp only [rawInt]
    refine wpAny_bind (wp_target (I₀.keeps hk) ?_)
    dsimp only [Int.toNat_natCast]
    rw [if_pos (by decide)]
    refine wpAny_bind (wpAny_of_eq (show reLiteralCannotBeTurned (.str rp tr) = pure () from rfl) ?_)
    rw [if_neg (by simp)]
    refine wpAny_bind ?_
    unfold reNextFound
    have hdrop : x.cps.extract p x.cps.size = x.cps.extract p x.cps.size := rfl
    refine wp_toEnd (hfind p must hp) (by (first | lia | omega)) (fun m' a b hab hma hmb => ?_) (fun h0 => ?_)
    · have hb := O.some p a b hp hab
      have aS : a ≤ x.cps.size := Nat.le_of_lt (Nat.lt_of_lt_of_le hb.2.1 hb.2.2)
      have hmin : min a x.cps.size = a := Nat.min_eq_left aS
      have pb : p < b := Nat.lt_of_le_of_lt hb.1 hb.2.1
      have hsb : x.cps.size - b < f := Nat.lt_of_lt_of_le (Nat.sub_lt_sub_left (Nat.lt_of_lt_of_le pb hb.2.2) pb) (Nat.le_of_lt_succ hf)
      have es : subAll find x.cps rp.cps (f + 1) p = x.cps.extract p a ++ rp.cps ++ subAll find x.cps rp.cps f b := by
        conv => lhs; rw [subAll_succ]
        rw [hab]
      rw [es] at hR
      dsimp only
      rw [hma, hmb]
      by_cases hpa : p < a
      · rw [if_pos hpa]
        refine wpAny_bind ?_
        unfold reSlice
        rw [if_pos (by decide)]
        refine wpAny_mkStr ?_ (by show (x.cps.extract p a).size ≤ sizeLine; rw [Array.size_extract, hmin, sizeLine_eq]; exact Nat.le_trans (Nat.sub_le _ _) (Nat.le_trans aS (Nat.le_trans hz (by decide))))
        refine wpAny_bind (wp_piece hD (by (first | lia | omega)) hD0 hk fun h1 k1 g1 s1 kk1 => ?_)
        rw [if_pos (by decide)]
        refine wpAny_bind (wpAny_pure ?_)
        rw [if_pos (ne_none _ _)]
        refine wpAny_bind (wp_piece g1 (by rw [List.length_append, List.length_singleton]; (first | lia | omega)) hD0 kk1 fun h2 k2 g2 s2 kk2 => ?_)
        refine wpAny_pure ⟨plainId_quiet plain_sub_loop _, ?_⟩
        refine ih b (n + 1) _ k2 _ (b == a) hsb hb.2.2 g2 (by simp only [List.length_append, List.length_singleton]; (first | lia | omega)) ?_ kk2 (fun h' t' k' hs => ?_)
        · simp only [List.map_append, List.map_cons, List.map_nil, cat_snoc, Array.size_append, Array.size_extract, hrp]; rw [hmin]; exact sl1 hc hb.1 hb.2.1
        · have := hR h' t' k' ((s1.trans s2).trans hs)
          simp only [List.map_append, List.map_cons, List.map_nil, cat_snoc]
          rw [← Array.append_assoc, ← Array.append_assoc] at this
          exact this
      · rw [if_neg hpa]
        have hpe : p = a := Nat.le_antisymm hb.1 (Nat.le_of_not_lt hpa)
        have he : x.cps.extract p a = #[] := Array.eq_empty_of_size_eq_zero (by rw [Array.size_extract, hmin, hpe, Nat.sub_self])
        rw [if_pos (by decide)]
        refine wpAny_bind (wpAny_pure ?_)
        rw [if_pos (ne_none _ _)]
        refine wpAny_bind (wp_piece hD (by (first | lia | omega)) hD0 hk fun h2 k2 g2 s2 kk2 => ?_)
        refine wpAny_pure ⟨plainId_quiet plain_sub_loop _, ?_⟩
        refine ih b (n + 1) _ k2 _ (b == a) hsb hb.2.2 g2 (by simp only [List.length_append, List.length_singleton]; (first | lia | omega)) ?_ kk2 (fun h' t' k' hs => ?_)
        · simp only [List.map_append, List.map_cons, List.map_nil, cat_snoc, Array.size_append, hrp]; exact sl2 hc pb
        · have := hR h' t' k' (s2.trans hs)
          rw [he] at this
          simp only [List.map_append, List.map_cons, List.map_nil, cat_snoc]
          simp only [Array.empty_append, ← Array.append_assoc] at this
          exact this
    · have es : subAll find x.cps rp.cps (f + 1) p = x.cps.extract p x.cps.size := by
        rw [subAll_succ]
        rw [h0]
      rw [es] at hR
      dsimp only
      have fin : ∀ (l' : List (Str × Tok)) (k' : Nat) (s' : Shared), s'.heap.get? D = some (listOf (strValues l').toArray k') → cat (l'.map (·.1)) = cat (l.map (·.1)) ++ x.cps.extract p x.cps.size → (∀ t' kk, R (.ok (.ret (.str (Str.mk (cat (l'.map (·.1)))) t'))) { s' with toks := kk }) →
          wpAny (model prog w) A.in1 (do
            let joiner ← reSlice x.cps 0 0 0
            let __do_lift ← seqItems? (Value.ref D)
            if (__do_lift.getD #[]).isEmpty = true then do
                let text ← pure joiner
                if false = true then do
                    let __do_lift ← holding [text] do newTuple [text, ← mkInt n]
                    ret __do_lift
                  else ret text
              else do
                let text ← call (Value.builtin (if (0 == 0) = true then "str.join" else "bytes.join")) [joiner, Value.ref D]
                if false = true then do
                    let __do_lift ← holding [text] do newTuple [text, ← mkInt n]
                    ret __do_lift
                  else ret text) (fun fin s' => match fin with | .done f => R (.ok f) s' | .again c' => c'.quiet = true ∧ codeAny (model prog w) A c' R s') (fun e s' => R (.error e) s') s' := by
        intro l' k' s' hD' hcat hR'
        refine wpAny_bind ?_
        unfold reSlice
        rw [if_pos (by decide)]
        refine wpAny_mkStr ?_ (by show (x.cps.extract 0 0).size ≤ sizeLine; rw [Array.size_extract, sizeLine_eq]; (first | lia | omega))
        refine wpAny_bind (wpAny_seqItems hD' rfl ?_)
        have e0 : x.cps.extract 0 0 = #[] := by simp
        rw [e0]
        cases l' with
        | nil =>
          rw [if_pos (by rfl)]
          refine wpAny_bind (wpAny_pure ?_)
          rw [if_neg (by simp)]
          exact wpAny_pure (hR' _ _)
        | cons q r =>
          rw [if_neg (by simp [strValues])]
          refine wpAny_bind ?_
          rw [if_pos (by decide)]
          have hsz : (cat (((q :: r)).map (·.1))).size ≤ sizeLine := by rw [hcat, Array.size_append, Array.size_extract, sizeLine_eq, Nat.min_self]; exact sl3 hc hp hz
          refine wp_join ⟨_, hD', rfl, _, rfl⟩ hsz fun t' kk => ?_
          rw [if_neg (by simp)]
          exact wpAny_pure (hR' _ _)
      by_cases hpl : p < x.cps.size
      · rw [if_pos hpl]
        refine wpAny_bind ?_
        conv => arg 3; unfold reSlice
        rw [if_pos (by decide)]
        refine wpAny_mkStr ?_ (by show (x.cps.extract p x.cps.size).size ≤ sizeLine; rw [Array.size_extract, sizeLine_eq, Nat.min_self]; exact Nat.le_trans (Nat.sub_le _ _) (Nat.le_trans hz (by decide)))
        refine wpAny_bind (wp_piece hD (by (first | lia | omega)) hD0 hk fun h1 k1 g1 s1 kk1 => ?_)
        refine fin _ k1 _ g1 (by simp only [List.map_append, List.map_cons, List.map_nil, cat_snoc]) fun t' kk => ?_
        have := hR h1 t' kk s1
        simp only [List.map_append, List.map_cons, List.map_nil, cat_snoc]
        exact this
      · rw [if_neg hpl]
        have hpe : p = x.cps.size := by (first | lia | omega)
        have he : x.cps.extract p x.cps.size = #[] := by rw [hpe]; simp
        refine fin l k s hD (by rw [he]; simp) fun t' kk => ?_
        have := hR s.heap t' kk (Heap.SameBut.refl _ _)
        rw [he] at this
        simp only [Array.append_empty] at this
        exact this
end
end
section
open PySem PySem.W PySem.Calls PyProof.Rows PySem.Builtin PySem.Builtin.Re
set_option maxRecDepth 100000
theorem plainAttrs_pat : PlainAttrs "re.Pattern" :=
  ⟨⟨"object.__getattribute__", by rw [typeLookup_type, builtinLookup_eq_fast]; kernel_rfl, by decide +kernel⟩, by rw [typeLookup_type, builtinLookup_eq_fast]; kernel_rfl⟩
theorem f1 : typeLookup (.type "re.Pattern") "sub" = pure (some (.builtin "re.Pattern.sub")) := by rw [typeLookup_type, builtinLookup_eq_fast]; kernel_rfl
theorem slot_pat_sub : Slot "re.Pattern" "sub" "re.Pattern.sub" :=
  .of (owner := "re.Pattern") (n := "sub") f1 (by decide +kernel) (by decide +kernel) (by decide +kernel)
    (by first | exact .inl (by decide +kernel) | exact .inr (by decide +kernel)) (by rw [isSubtype_type]; kernel_rfl)
theorem type_pat_sub : typeOf (.builtin "re.Pattern.sub") = pure (.type "method_descriptor") := by show builtinType _ = _; rw [builtinType_eq_fast]; kernel_rfl
theorem entry_pat_sub : entryFor table "re.Pattern.sub" = some Builtin.«re.Pattern.sub» := entryFor_of_tree (by kernel_rfl)
theorem owner_pat : Manifest.owners.lookup (String.ofList ['n', 'r', 'e', 't', 't', 'a', 'P', '.', 'e', 'r'].reverse) = some Manifest.sig_re_Pattern := by kernel_rfl
theorem args_pat_sub (a b c : Value) : argsOk "re.Pattern.sub" ⟨[a, b, c], []⟩ := by unfold argsOk; rw [signature?_of (id := "re.Pattern.sub") (n := ['b', 'u', 's']) (o := ['n', 'r', 'e', 't', 't', 'a', 'P', '.', 'e', 'r']) (by kernel_rfl) owner_pat]; kernel_rfl
theorem no_call_str : typeLookup (.type "str") "__call__" = pure none := by rw [typeLookup_type, builtinLookup_eq_fast]; kernel_rfl
section
variable {prog : Program} {w : World} {A : Around} {E : Value → Shared → Prop} {s : Shared}
theorem getMethod_pat {P : Addr} {code : Array Nat} {pl : Sem Bool} {Q : Value × List Value → Shared → Prop} (I : IsPat s.heap P code) (h : Q (.builtin "re.Pattern.sub", [.ref P]) s) :
    wpAny (model prog w) A (getMethod (.ref P) "sub" pl) Q E s := by
  obtain ⟨o, fs, T, ot, h1, h2, h3, _⟩ := I.has
  exact getMethod_builtin ⟨o, h1, h2⟩ plainAttrs_pat slot_pat_sub type_pat_sub (fun a e => by cases e; exact ⟨o, h1, h3⟩) h
theorem wp_sub {P : Addr} {code : Array Nat} {x rp : Str} {t tr : Tok} {Q : Value → Shared → Prop} {find : Nat → Option (Nat × Nat)} (I : IsPat s.heap P code) (O : FindOk find x.cps.size) (hrp : rp.cps.size = 2) (hns : rp.cps.contains 92 = false) (hz : x.cps.size ≤ 1000000)
    (hfind : ∀ p must, p ≤ x.cps.size → Gets (5 * (x.cps.size + 100)) (find p) (Sre.forSearch code x.cps 0 p x.cps.size must))
    (h : ∀ h' t' k', (∀ b o, s.heap.get? b = some o → h'.get? b = some o) → Q (.str (Str.mk (subAll find x.cps rp.cps (x.cps.size + 1) 0)) t') { s with heap := h', toks := k' }) :
    wpAny (model prog w) A (call (.builtin "re.Pattern.sub") [.ref P, .str rp tr, .str x t]) Q E s := by
  have hI := I
  obtain ⟨o, fs, T, ot, h1, h2, h3, _⟩ := hI.has
  refine wpAny_call (codeAny_call_builtin slot_pat_sub.plain entry_pat_sub (slot_pat_sub.check _ _ _ _ _ _ _ _ ⟨o, h1, h2⟩ (args_pat_sub _ _ _) ?_))
  unfold Builtin.«re.Pattern.sub» reSubstitute
  dsimp only
  refine wpAny_bind (wpAny_of_eq (show reNamed "re.Pattern.sub" "sub" ["repl", "string", "count"] 2 [.str rp tr, .str x t] [] = pure [some (.str rp tr), some (.str x t), none] from rfl) ?_)
  dsimp only
  refine wpAny_bind (wpAny_pure ?_)
  refine wpAny_bind (wpAny_specialOf (typeIs_str s _ _) no_call_str ?_)
  dsimp only [Option.isSome]
  rw [if_neg (by simp)]
  refine wpAny_bind ?_
  refine wpAny_of_eq (show asStr? (.str rp tr) = pure (some rp) from rfl) ?_
  refine wpAny_bind (wpAny_pure ?_)
  rw [hns]
  rw [if_neg (by simp)]
  rw [if_pos (by rfl)]
  refine wpAny_bind (wpAny_pure ?_)
  refine wpAny_bind (wpAny_holding (wp_target I ?_))
  rw [if_neg (by simp)]
  refine wpAny_bind (wpAny_newObj_type ?_ (by show 0 ≤ _; (first | lia | omega)))
  refine wpAny_pure ⟨plainId_quiet plain_sub_loop _, ?_⟩
  have hn : s.heap.get? s.heap.objs.size = none := Heap.get?_none_of_le (Nat.le_refl _)
  refine sub_loop O hrp hz hfind I hn (x.cps.size + 1) 0 0 [] 0 _ false (by (first | lia | omega)) (by (first | lia | omega)) (Heap.get?_push_size _ rfl) (by simp) (by simp [cat]) (fun b o e => Heap.get?_push_of_some _ e) (fun h' t' k' hs => ?_)
  have := h h' t' k' (fun b o e => (hs.2 b (fun q => by rw [q, hn] at e; cases e)).trans (Heap.get?_push_of_some _ e))
  simp only [List.map_nil, cat, List.foldl_nil, Array.empty_append]
  exact this
end
end
section
set_option maxRecDepth 100000
noncomputable def normGo : List Nat → Bool → List Nat
  | [], _ => []
  | c :: r, b => if c = 13 then 13 :: 10 :: normGo r true else if c = 10 then (if b = true then normGo r false else 13 :: 10 :: normGo r false) else c :: normGo r false
noncomputable def norm (x : List Nat) : List Nat := normGo x false
noncomputable def dots : Bool → List Nat → List Nat
  | _, [] => []
  | b, c :: r => (if b = true ∧ c = 46 then [46, 46] else [c]) ++ dots (c == 10) r
noncomputable def quote (x : List Nat) : List Nat := dots true (norm x)
theorem dots_nil (b : Bool) : dots b [] = [] := rfl
theorem dots_cons (b : Bool) (c : Nat) (r : List Nat) : dots b (c :: r) = (if b = true ∧ c = 46 then [46, 46] else [c]) ++ dots (c == 10) r := rfl
theorem norm_nil : norm [] = [] := rfl
theorem norm_10 (r : List Nat) : norm (10 :: r) = 13 :: 10 :: norm r := rfl
theorem norm_1310 (r : List Nat) : norm (13 :: 10 :: r) = 13 :: 10 :: norm r := rfl
theorem normGo_at (c : Nat) (r : List Nat) (b : Bool) : normGo (c :: r) b = if c = 13 then 13 :: 10 :: normGo r true else if c = 10 then (if b = true then normGo r false else 13 :: 10 :: normGo r false) else c :: normGo r false := rfl
theorem norm_13 (r : List Nat) (h : r.head? ≠ some 10) : norm (13 :: r) = 13 :: 10 :: norm r := by
  show 13 :: 10 :: normGo r true = 13 :: 10 :: normGo r false
  cases r with
  | nil => rfl
  | cons d r' =>
    have e : d ≠ 10 := fun e => h (by rw [e]; rfl)
    rw [normGo_at, normGo_at, if_neg e, if_neg e]
theorem norm_other (c : Nat) (r : List Nat) (h1 : c ≠ 13) (h2 : c ≠ 10) : norm (c :: r) = c :: norm r := by
  show normGo (c :: r) false = _
  rw [normGo_at, if_neg h1, if_neg h2]
  rfl
section
variable {text : Array Nat}
theorem drop_at {s : Nat} (h : s < text.size) : text.toList.drop s = text.getD s 0 :: text.toList.drop (s + 1) := by
  rw [List.drop_eq_getElem_cons (by simpa using h)]
  congr 1
  simp [Array.getD, h]
theorem ext_at {p a : Nat} (h : p < a) (ha : a ≤ text.size) : (text.extract p a).toList = text.getD p 0 :: (text.extract (p + 1) a).toList := by
  have hp : p < text.size := by (first | lia | omega)
  have e : ∀ q, (text.extract q a).toList = (text.toList.drop q).take (a - q) := fun q => by rw [Array.toList_extract, List.extract_eq_take_drop]
  rw [e, e, drop_at hp, show a - p = (a - (p + 1)) + 1 by (first | lia | omega), List.take_succ_cons]
theorem find2_spec : ∀ (f p : Nat), p + f = text.size + 1 → p ≤ text.size → (match find2 text f p with
    | none => norm (text.toList.drop p) = text.toList.drop p
    | some (a, b) => p ≤ a ∧ a < b ∧ b ≤ text.size ∧ norm (text.toList.drop p) = (text.extract p a).toList ++ [13, 10] ++ norm (text.toList.drop b)) := by
  intro f
  induction f with
  | zero => intro p h1 h2; (first | lia | omega)
  | succ f ih =>
    intro p h1 h2
    rw [find2_succ]
    by_cases lt : p < text.size
    · rw [if_pos lt]
      by_cases d : text.getD p 0 = 10
      · rw [if_pos d]
        refine ⟨Nat.le_refl _, Nat.lt_succ_self _, lt, ?_⟩
        rw [drop_at lt, d, norm_10]; simp
      · rw [if_neg d]
        by_cases g : text.getD p 0 = 13
        · rw [if_pos g]
          by_cases k : p + 1 < text.size ∧ text.getD (p + 1) 0 = 10
          · rw [if_pos k]
            refine ⟨Nat.le_refl _, by (first | lia | omega), by (first | lia | omega), ?_⟩
            rw [drop_at lt, g, drop_at k.1, k.2, norm_1310]; simp
          · rw [if_neg k]
            refine ⟨Nat.le_refl _, Nat.lt_succ_self _, lt, ?_⟩
            rw [drop_at lt, g, norm_13 _ ?_]
            · simp
            · intro q
              by_cases lt1 : p + 1 < text.size
              · rw [drop_at lt1] at q
                exact k ⟨lt1, Option.some.inj q⟩
              · rw [List.drop_eq_nil_of_le (by simp; (first | lia | omega))] at q
                cases q
        · rw [if_neg g]
          have := ih (p + 1) (by (first | lia | omega)) (by (first | lia | omega))
          rw [drop_at lt, norm_other _ _ g d]
          cases e : find2 text f (p + 1) with
          | none => rw [e] at this; simp only at this ⊢; rw [this]
          | some ab =>
            obtain ⟨a, b⟩ := ab
            rw [e] at this
            simp only at this ⊢
            obtain ⟨h3, h4, h5, h6⟩ := this
            refine ⟨by (first | lia | omega), h4, h5, ?_⟩
            rw [h6, ext_at (p := p) (a := a) (by (first | lia | omega)) (by (first | lia | omega))]; rfl
    · rw [if_neg lt]
      have : text.toList.drop p = [] := List.drop_eq_nil_of_le (by simp; (first | lia | omega))
      simp only [this, norm_nil]
theorem find1_spec : ∀ (f p : Nat), p + f = text.size + 1 → p ≤ text.size → (match find1 text f p with
    | none => dots (p == 0 || text.getD (p - 1) 0 == 10) (text.toList.drop p) = text.toList.drop p
    | some (a, b) => p ≤ a ∧ a < b ∧ b ≤ text.size ∧ dots (p == 0 || text.getD (p - 1) 0 == 10) (text.toList.drop p) = (text.extract p a).toList ++ [46, 46] ++ dots (b == 0 || text.getD (b - 1) 0 == 10) (text.toList.drop b)) := by
  intro f
  induction f with
  | zero => intro p h1 h2; (first | lia | omega)
  | succ f ih =>
    intro p h1 h2
    rw [find1_succ]
    by_cases lt : p < text.size
    · by_cases c : (p == 0 || text.getD (p - 1) 0 == 10) = true ∧ p < text.size ∧ text.getD p 0 = 46
      · rw [if_pos c]
        refine ⟨Nat.le_refl _, Nat.lt_succ_self _, lt, ?_⟩
        rw [drop_at lt, c.2.2]
        rw [dots_cons, if_pos ⟨c.1, rfl⟩]
        have e : (p + 1 == 0 || text.getD (p + 1 - 1) 0 == 10) = (46 == 10) := by
          rw [Nat.add_sub_cancel, c.2.2]; simp
        rw [e]; simp
      · rw [if_neg c]
        have := ih (p + 1) (by (first | lia | omega)) (by (first | lia | omega))
        have e : (p + 1 == 0 || text.getD (p + 1 - 1) 0 == 10) = (text.getD p 0 == 10) := by
          rw [Nat.add_sub_cancel]; simp
        rw [e] at this
        have ed : dots (p == 0 || text.getD (p - 1) 0 == 10) (text.toList.drop p) = text.getD p 0 :: dots (text.getD p 0 == 10) (text.toList.drop (p + 1)) := by
          rw [drop_at lt, dots_cons, if_neg (fun q => c ⟨q.1, lt, q.2⟩)]; rfl
        rw [ed]
        cases e2 : find1 text f (p + 1) with
        | none => rw [e2] at this; simp only at this ⊢; rw [this, ← drop_at lt]
        | some ab =>
          obtain ⟨a, b⟩ := ab
          rw [e2] at this
          simp only at this ⊢
          obtain ⟨h3, h4, h5, h6⟩ := this
          refine ⟨by (first | lia | omega), h4, h5, ?_⟩
          rw [h6, ext_at (p := p) (a := a) (by (first | lia | omega)) (by (first | lia | omega))]; rfl
    · have hp : p = text.size := by (first | lia | omega)
      rw [if_neg (fun q => lt q.2.1)]
      have e0 : f = 0 := by (first | lia | omega)
      subst e0
      have : text.toList.drop p = [] := List.drop_eq_nil_of_le (by simp; (first | lia | omega))
      rw [this]
      rw [show find1 text 0 (p + 1) = none from rfl]
      simp only
      rw [dots_nil]
theorem drop_ext (p : Nat) : (text.extract p text.size).toList = text.toList.drop p := by
  rw [Array.toList_extract, List.extract_eq_take_drop, List.take_of_length_le (by simp)]
theorem sub2_spec : ∀ (f p : Nat), text.size - p < f → p ≤ text.size → (subAll (fun p => find2 text (text.size + 1 - p) p) text #[13, 10] f p).toList = norm (text.toList.drop p) := by
  intro f
  induction f with
  | zero => intro p h; (first | lia | omega)
  | succ f ih =>
    intro p h hp
    have := find2_spec (text := text) (text.size + 1 - p) p (by (first | lia | omega)) hp
    rw [subAll_succ]
    cases e : find2 text (text.size + 1 - p) p with
    | none => rw [e] at this; simp only at this ⊢; rw [this, drop_ext]
    | some ab =>
      obtain ⟨a, b⟩ := ab
      rw [e] at this
      simp only at this ⊢
      obtain ⟨h3, h4, h5, h6⟩ := this
      rw [h6, Array.toList_append, Array.toList_append, ih b (by (first | lia | omega)) h5]
theorem sub1_spec : ∀ (f p : Nat), text.size - p < f → p ≤ text.size → (subAll (fun p => find1 text (text.size + 1 - p) p) text #[46, 46] f p).toList = dots (p == 0 || text.getD (p - 1) 0 == 10) (text.toList.drop p) := by
  intro f
  induction f with
  | zero => intro p h; (first | lia | omega)
  | succ f ih =>
    intro p h hp
    have := find1_spec (text := text) (text.size + 1 - p) p (by (first | lia | omega)) hp
    rw [subAll_succ]
    cases e : find1 text (text.size + 1 - p) p with
    | none => rw [e] at this; simp only at this ⊢; rw [this, drop_ext]
    | some ab =>
      obtain ⟨a, b⟩ := ab
      rw [e] at this
      simp only at this ⊢
      obtain ⟨h3, h4, h5, h6⟩ := this
      rw [h6, Array.toList_append, Array.toList_append, ih b (by (first | lia | omega)) h5]
theorem ok2 : FindOk (fun p => find2 text (text.size + 1 - p) p) text.size := ⟨fun p a b hp e => by
  have := find2_spec (text := text) (text.size + 1 - p) p (by (first | lia | omega)) hp
  rw [show find2 text (text.size + 1 - p) p = some (a, b) from e] at this
  exact ⟨this.1, this.2.1, this.2.2.1⟩⟩
theorem ok1 : FindOk (fun p => find1 text (text.size + 1 - p) p) text.size := ⟨fun p a b hp e => by
  have := find1_spec (text := text) (text.size + 1 - p) p (by (first | lia | omega)) hp
  rw [show find1 text (text.size + 1 - p) p = some (a, b) from e] at this
  exact ⟨this.1, this.2.1, this.2.2.1⟩⟩
end
end
section
set_option maxRecDepth 100000
theorem isPat1 {w : World} {mg mb : Str → Option Value} {h : Heap} (G : Gnd w mg mb h) : IsPat h 99 code1 :=
  ⟨⟨_, _, 98, _, G.k 99 _ (by with_unfolding_all rfl), rfl, rfl, rfl, rfl, rfl, rfl, G.k 98 _ (by with_unfolding_all rfl), _, _, rfl, by decide +kernel⟩⟩
theorem isPat2 {w : World} {mg mb : Str → Option Value} {h : Heap} (G : Gnd w mg mb h) : IsPat h 104 code2 :=
  ⟨⟨_, _, 103, _, G.k 104 _ (by with_unfolding_all rfl), rfl, rfl, rfl, rfl, rfl, rfl, G.k 103 _ (by with_unfolding_all rfl), _, _, rfl, by decide +kernel⟩⟩
section
variable {w : World} {mg mb : Str → Option Value} {h₀ : Heap} {A : Around} {E : Value → Shared → Prop} {s : Shared}
theorem wp_sub1 (G : Gnd w mg mb h₀) (st : h₀.StaysIn s.heap) {x : Str} {t tr : Tok} {Q : Value → Shared → Prop} (hz : x.cps.size ≤ 1000000)
    (h : ∀ h' t' k' y, (∀ b o, s.heap.get? b = some o → h'.get? b = some o) → y.toList = dots true x.cps.toList → Q (.str (Str.mk y) t') { s with heap := h', toks := k' }) :
    wpAny (model PG w) A (call (.builtin "re.Pattern.sub") [.ref 99, .str (Str.ofString "..") tr, .str x t]) Q E s := by
  refine wp_sub ((isPat1 G).keeps st) ok1 (by decide +kernel) (by decide +kernel) hz (fun p must hp => (forSearch1 hp).le (by (first | lia | omega))) fun h' t' k' kk => h h' t' k' _ kk ?_
  exact sub1_spec (x.cps.size + 1) 0 (by (first | lia | omega)) (by (first | lia | omega))
theorem wp_sub2 (G : Gnd w mg mb h₀) (st : h₀.StaysIn s.heap) {x : Str} {t tr : Tok} {Q : Value → Shared → Prop} (hz : x.cps.size ≤ 1000000)
    (h : ∀ h' t' k' y, (∀ b o, s.heap.get? b = some o → h'.get? b = some o) → y.toList = norm x.cps.toList → Q (.str (Str.mk y) t') { s with heap := h', toks := k' }) :
    wpAny (model PG w) A (call (.builtin "re.Pattern.sub") [.ref 104, .str (Str.ofString "\r\n") tr, .str x t]) Q E s := by
  refine wp_sub ((isPat2 G).keeps st) ok2 (by decide +kernel) (by decide +kernel) hz (fun p must hp => (forSearch2 hp).le (by (first | lia | omega))) fun h' t' k' kk => h h' t' k' _ kk ?_
  exact sub2_spec (x.cps.size + 1) 0 (by (first | lia | omega)) (by (first | lia | omega))
end
theorem norm_len : ∀ (n : Nat) (l : List Nat), l.length ≤ n → (norm l).length ≤ 2 * l.length
  | 0, l, h => by cases l with
    | nil => rw [norm_nil]; simp
    | cons => simp at h
  | n + 1, [], _ => by rw [norm_nil]; simp
  | n + 1, c :: r, h => by
    have hr : r.length ≤ n := by simpa using h
    have ih := norm_len n r hr
    by_cases h1 : c = 13
    · subst h1
      by_cases h2 : r.head? = some 10
      · cases r with
        | nil => cases h2
        | cons d r' =>
          cases h2
          have ih' := norm_len n r' (by simp at hr; (first | lia | omega))
          rw [norm_1310]; simp only [List.length_cons]; (first | lia | omega)
      · rw [norm_13 _ h2]; simp only [List.length_cons]; (first | lia | omega)
    · by_cases h2 : c = 10
      · subst h2; rw [norm_10]; simp only [List.length_cons]; (first | lia | omega)
      · rw [norm_other _ _ h1 h2]; simp only [List.length_cons]; (first | lia | omega)
set_option maxHeartbeats 8000000
theorem qd_spec {w : World} {mg mb : Str → Option Value} {h₀ : Heap} (G : Gnd w mg mb h₀) {A : Around} {R : Result → Shared → Prop} {s : Shared} (st : h₀.StaysIn s.heap) (hroom : A.depth < 900)
   (x : Str) (t : Tok) (hz : x.cps.size ≤ 300000) (h : ∀ h' t' k' y, (∀ b o, s.heap.get? b = some o → h'.get? b = some o) → y.toList = quote x.cps.toList → R (.ok (.ret (.str (Str.mk y) t'))) { s with heap := h', toks := k' }) :
   codeAny (model PG w) A (.call (.ref 111) ⟨[.str x t], []⟩) R s := by
  refine enter G st (by with_unfolding_all rfl) (by with_unfolding_all rfl) (by show A.depth < 1000; (first | lia | omega)) (BindsTo.of_eq (binds := [("data", .str x t)]) rfl) (by exact locs rfl) [] (fun _ hp => nomatch hp) ?_
  intro g L' h₁ tk I F N G'
  have X := G'.k
  obtain ⟨me, T⟩ := G'.t
  k_steps
  refine getMethod_pat (code := code1) ((isPat1 (by assumption)).keeps (Fr.keep (by assumption))) ?_
  k_steps
  refine getMethod_pat (code := code2) ((isPat2 (by assumption)).keeps (Fr.keep (by assumption))) ?_
  k_steps
  refine wp_sub2 G' (by exact F.keep) (by (first | lia | omega)) ?_
  intro h2 t2 k2 y kk hy
  replace F := F.kept kk
  replace N := N.grown kk
  have hl : (Str.mk y).cps.size ≤ 1000000 := by
    have := norm_len _ x.cps.toList (Nat.le_refl _)
    rw [← hy] at this
    simp only [Array.length_toList] at this
    show y.size ≤ _
    (first | lia | omega)
  k_steps
  refine wp_sub1 G' (by exact F.keep) hl ?_
  intro h3 t3 k3 y3 kk3 hy3
  replace F := F.kept kk3
  k_steps
  refine h h3 t3 k3 y3 (fun b o e => F.keep b o (I.old b o e (by simp))) ?_
  rw [hy3, hy]; rfl
end
theorem Again.at1 {M : Model} {A : Around} {env : Env} {Q : Flow → Shared → Prop} {E : Value → Shared → Prop} {s : Shared} (h : Q .next s) : wpAny M A (execs [] env) Q E s := by w_top off; walk1; exact h
section
set_option maxRecDepth 100000
noncomputable def defBody (s : Stmt) : List Stmt := stB s
noncomputable def lamStmt : Stmt := (defBody ((PySem.Challenge.rw_sl0005_01.row.prog.main.body).getD 15 (.Pass default))).getD 3 (.Pass default)
noncomputable def lamParams (s : Stmt) : Arguments := (exP (stE s)).1
noncomputable def lamBody (s : Stmt) : Expr := (exP (stE s)).2.1
noncomputable def lamScope (s : Stmt) : Scope := (exP (stE s)).2.2.1
noncomputable abbrev lamObj (pm : Value) (c co : Addr) (ctv : Value) : Obj := kla_obj "<lambda>" "_law_reader.<locals>.<lambda>" (lamParams lamStmt) (lamBody lamStmt) (lamScope lamStmt) [("signs", c)] pm co ctv
noncomputable abbrev cellObj (v : Value) : Obj := { cls := .type "cell", data := .cell (some v) }
theorem kl_last_snoc : ∀ (p : List Value) (y : Value), kl_last (p ++ [y]) = some (p, y)
  | [], _ => rfl
  | x :: p, y => by
    show (match kl_last (p ++ [y]) with | some (p, y) => some (x :: p, y) | none => some ([], x)) = _
    rw [kl_last_snoc p y]
noncomputable def rcV : List (Nat × Tok) → Str
  | [] => ""
  | p :: _ => ⟨#[p.1]⟩
noncomputable def rcN (n : Int) : List (Nat × Tok) → Int
  | [] => n
  | p :: _ => if p.1 = 10 then n + 1 else n
noncomputable def sgV (l : List (Nat × Tok)) : List Value := l.map fun p => .str ⟨#[p.1]⟩ p.2
section
variable {w : World} {mg mb : Str → Option Value} {h₀ : Heap} {A : Around} {R : Result → Shared → Prop} {s : Shared}
set_option maxHeartbeats 800000
theorem read_spec (G : Gnd w mg mb h₀) (st : h₀.StaysIn s.heap) (hroom : A.depth < 900) {fn co cl sg : Addr} {pm ctv : Value} {cob : Obj} {t : Tok} {k : Nat} {signs : List (Nat × Tok)}
    (ho : s.heap.get? fn = some (lamObj pm cl co ctv)) (hcd : s.heap.CodeRec (.ref co) "_law_reader.<locals>.<lambda>") (hc : cob.data = .cell (some (.ref sg)))
    (hn : Led h₀ s.heap [(cl, cob), (sg, listOf (sgV signs.reverse).toArray k)]) (hne : cl ≠ sg) (hz : signs.length ≤ 1000000)
    (h : ∀ h' tk t' k', Keep [cl, sg] s.heap h' → h'.get? cl = some cob → h'.get? sg = some (listOf (sgV signs.tail.reverse).toArray k') → R (.ok (.ret (.str (rcV signs) t'))) { s with heap := h', toks := tk }) :
    codeAny (model PG w) A (.call (.ref fn) ⟨[.int 1 t], []⟩) R s := by
  refine enterL G st ho hcd (by show A.depth < 1000; (first | lia | omega)) (binds := [("size", .int 1 t)]) rfl (by exact locs rfl) [(cl, cob), (sg, listOf (sgV signs.reverse).toArray k)] hn ?_ rfl rfl rfl (by decide)
  intro g L' h₁ tk I F N G'
  have X := G'.k
  obtain ⟨me, T⟩ := G'.t
  conv in (eval (lamBody lamStmt) _) => arg 1; whnf
  have es := Eq.refl (lamScope lamStmt)
  conv at es => rhs; whnf
  rw [es]
  have hsz : (sgV signs.reverse).toArray.size = signs.length := by simp [sgV]
  iterate 3 walk1
  refine nameX_F N rfl (List.Mem.head _) hc ?_
  refine wpAny_truthy_list (items := (sgV signs.reverse).toArray) ⟨_, (N _ (.tail _ (.head _))).1, rfl, _, rfl⟩ (by rw [hsz]; (first | lia | omega)) ?_
  cases signs with
  | nil =>
    rw [if_neg (by simp [sgV])]
    rw [if_neg (by simp)]
    k_steps
    have kb := I.keepBack F
    exact h _ _ _ _ kb (N _ (.head _)).1 (N _ (.tail _ (.head _))).1
  | cons p r =>
    obtain ⟨c, u⟩ := p
    rw [if_pos (by simp [sgV])]
    iterate 8 walk1
    rw [if_pos rfl]
    walk1
    refine nameX_F N rfl (List.Mem.head _) hc ?_
    refine kl_method N (.tail _ (.head _)) PySem.F.slot_list_pop PySem.F.type_list_pop ?_
    walk1
    have hlast : kl_last (sgV ((c, u) :: r).reverse).toArray.toList = some (sgV r.reverse, .str ⟨#[c]⟩ u) := by
      rw [List.toList_toArray]
      unfold sgV
      rw [List.reverse_cons, List.map_append]
      exact kl_last_snoc _ _
    dsimp only
    refine kl_pop F N hlast (.tail hne (.head (fun _ h => nomatch h))) (by simp [sgV, sizeLine_eq]; simp at hz; (first | lia | omega)) ?_
    intro h' F' N'
    exact h _ _ _ _ (I.keepBack F') (N' _ (.head _)).1 (N' _ (.tail _ (.head _))).1
end
end
theorem Again.at2 {M : Model} {A : Around} {env : Env} {Q : Flow → Shared → Prop} {E : Value → Shared → Prop} {s : Shared} (h : Q .next s) : wpAny M A (execs [] env) Q E s := by w_top off; walk1; exact h
section
set_option maxRecDepth 100000
theorem not_mem2 {a b c : Addr} (h1 : a ≠ b) (h2 : a ≠ c) : a ∉ [b, c] := by simp [h1, h2]
structure LX where
  lx : Addr
  ld : Addr
  pb : Addr
  st : Addr
  sd : Addr
  fn : Addr
  co : Addr
  cl : Addr
  sg : Addr
  sp : Addr
structure LXOrd (X : LX) : Prop where
  o1 : @LT.lt Nat _ X.cl X.sg
  o2 : @LT.lt Nat _ X.sg X.sd
  o3 : @LT.lt Nat _ X.sd X.st
  o4 : @LT.lt Nat _ X.st X.co
  o5 : @LT.lt Nat _ X.co X.fn
  o6 : @LT.lt Nat _ X.fn X.ld
  o7 : @LT.lt Nat _ X.ld X.lx
  o8 : @LT.lt Nat _ X.lx X.pb
noncomputable def ws : Str := "\n\t\r "
noncomputable abbrev entD (P : Params) (n : Str) (t : Tok) (v : Value) : DictEntry := { hash := PyData.keyHash P n, key := .str n t, val := v }
noncomputable abbrev dLex (P : Params) (T : Nat → Tok) (t1 : Tok) (n : Int) (st : Value) (pb : Addr) : Obj :=
  dictOf [entD P "lineno" (T 0) (.int n t1), entD P "instream" (T 2) st, entD P "whitespace" (T 3) (.str "\n\t\r " (T 4)), entD P "pushback" (T 5) (.ref pb)] 4
noncomputable abbrev dStr (P : Params) (T : Nat → Tok) (n : Int) (sp fn : Addr) : Obj :=
  dictOf [entD P "lineno" (T 0) (.int n (T 1)), entD P "instream" (T 2) .none, entD P "whitespace" (T 3) (.str "\n\t\r " (T 4)), entD P "pushback" (T 5) (.ref sp), entD P "read" (T 6) (.ref fn)] 5
inductive IsLex (P : Params) (X : LX) (n : Int) (pend : List (Str × Tok)) (signs : List (Nat × Tok)) (l : List (Addr × Obj)) : Prop
  | mk (nd : LXOrd X) (T : Nat → Tok) (t1 : Tok) (U : Nat → Tok) (pm ctv : Value) (cob oc : Obj) (vs : Array Value) (t : Tok) (k1 k2 : Nat) (eq : l = [(X.lx, instObj 90 X.ld), (X.ld, dLex P T t1 n (.ref X.st) X.pb), (X.pb, listOf (strValues pend).toArray k1), (X.st, instObj 90 X.sd), (X.sd, dStr P U 1 X.sp X.fn), (X.fn, lamObj pm X.cl X.co ctv), (X.co, oc), (X.cl, cob), (X.sg, listOf (sgV signs.reverse).toArray k2)])
    (hc : cob.data = .cell (some (.ref X.sg))) (ho : oc.data = .fields vs) (hq : vs[1]? = some (.str "_law_reader.<locals>.<lambda>" t))
inductive LexBack (P : Params) (X : LX) (n : Int) (pend : List (Str × Tok)) (signs : List (Nat × Tok)) (l : List (Addr × Obj)) (h h' : Heap) : Prop
  | mk (l' : List (Addr × Obj)) (il : IsLex P X n pend signs l') (hv : ∀ p ∈ l', h'.get? p.1 = some p.2) (hm : l'.map (·.1) = l.map (·.1)) (kk : Keep (l.map (·.1)) h h')
theorem IsLex.of {P : Params} {X : LX} {n : Int} {pend : List (Str × Tok)} {signs : List (Nat × Tok)} {T U : Nat → Tok} {t1 : Tok} {pm ctv : Value} {cob oc : Obj} {vs : Array Value} {t : Tok} {k1 k2 : Nat} (nd : LXOrd X)
    (hc : cob.data = .cell (some (.ref X.sg))) (ho : oc.data = .fields vs) (hq : vs[1]? = some (.str "_law_reader.<locals>.<lambda>" t)) :
    IsLex P X n pend signs [(X.lx, instObj 90 X.ld), (X.ld, dLex P T t1 n (.ref X.st) X.pb), (X.pb, listOf (strValues pend).toArray k1), (X.st, instObj 90 X.sd), (X.sd, dStr P U 1 X.sp X.fn), (X.fn, lamObj pm X.cl X.co ctv), (X.co, oc), (X.cl, cob), (X.sg, listOf (sgV signs.reverse).toArray k2)] :=
  ⟨nd, T, t1, U, pm, ctv, cob, oc, vs, t, k1, k2, rfl, hc, ho, hq⟩
theorem LexBack.of {P : Params} {X : LX} {n : Int} {pend : List (Str × Tok)} {signs : List (Nat × Tok)} {l l' : List (Addr × Obj)} {g h h' : Heap} {L : Addr} (N : News g L h' l') (hm : l'.map (·.1) = l.map (·.1)) (k : Keep (l.map (·.1)) h h') (il : IsLex P X n pend signs l') : LexBack P X n pend signs l h h' :=
  ⟨l', il, fun p hp => (N p hp).1, hm, k⟩
section
variable {w : World} {mg mb : Str → Option Value} {h₀ : Heap} {A : Around} {R : Result → Shared → Prop} {s : Shared}
set_option maxHeartbeats 2000000
theorem readchar_spec (G : Gnd w mg mb h₀) (st : h₀.StaysIn s.heap) (hroom : A.depth < 800) {X : LX} {n : Int} {pend : List (Str × Tok)} {signs : List (Nat × Tok)} {l : List (Addr × Obj)}
    (hl : IsLex w.params X n pend signs l) (hn : Led h₀ s.heap l) (hz : signs.length ≤ 1000000)
    (h : ∀ h' tk t', LexBack w.params X (rcN n signs) pend signs.tail l s.heap h' → R (.ok (.ret (.str (rcV signs) t'))) { s with heap := h', toks := tk }) :
    codeAny (model PG w) A (.call (.ref 73) ⟨[.ref X.lx], []⟩) R s := by
  refine hideP fun G9 hG9 => ?_
  obtain ⟨hnd, T, t1, U, pm, ctv, cob, oc, vs, tq, k1, k2, rfl, hc, hoc, hq⟩ := hl
  refine hG9 ?_
  clear hG9
  refine hideP fun G9 hG9 => ?_
  obtain ⟨o1, o2, o3, o4, o5, o6, o7, o8⟩ := id hnd
  refine hG9 ?_
  clear hG9
  refine enter G st (by with_unfolding_all rfl) (by with_unfolding_all rfl) (by show A.depth < 1000; walk_at "om") (BindsTo.of_eq (binds := [("self", .ref X.lx)]) rfl) (by exact locs rfl) _ hn ?_
  intro g L' h₁ tk I F N G'
  have XK := G'.k
  obtain ⟨me, TT⟩ := G'.t
  iterate 6 walk1
  refine method_usual (C := 90) (XK.keeps (by exact F.keep)) (InstAt.of_news (by exact N) (by k_mem) (by k_mem)) (by k_is) (by k_is) (by k_is) (by rfl) ?_
  refine get_own F XK (InstAt.of_news (by exact N) (by k_mem) (by k_mem)) (by k_is) (by k_is) (by k_is) (by k_is) (by k_get) (by k_handed) ?_
  refine callWith_F (FnAt.of (by exact N) (by k_mem)) ?_
  iterate 3 walk1
  refine ⟨FnAt.of (by exact N) (by k_mem), wpAny_call ?_⟩
  refine read_spec G' (by exact F.keep) (by show A.depth + 1 < 900; walk_at "om") (fn := X.fn) (co := X.co) (cl := X.cl) (sg := X.sg) (k := k2) (signs := signs) (cob := cob) (N.get (by k_mem)) ?_ hc ((Mine.News.led N).sub ?_) (by refine neN ?_; walk_at "om") hz ?_
  · exact ⟨X.co, oc, vs, tq, rfl, N.get (by k_mem), hoc, hq⟩
  · intro p hp; simp only [List.mem_cons, List.not_mem_nil, or_false] at hp ⊢; rcases hp with rfl | rfl <;> simp
  · intro h2 tk2 t2 k' kk hcl hsg
    have F2 := Fr.after F kk (by intro hm; simp only [List.mem_cons, List.not_mem_nil, or_false] at hm; rcases hm with e | e; exact (N _ (show (X.cl, cob) ∈ _ by k_mem)).2.1 e.symm; exact (N _ (show (X.sg, listOf (sgV signs.reverse).toArray k2) ∈ _ by k_mem)).2.1 e.symm)
      (by intro a hm; simp only [List.mem_cons, List.not_mem_nil, or_false] at hm; rcases hm with rfl | rfl; exact N.fresh (by k_mem); exact N.fresh (by k_mem))
    have N2 : News g L' h2 [(X.lx, instObj 90 X.ld), (X.ld, dLex w.params T t1 n (.ref X.st) X.pb), (X.pb, listOf (strValues pend).toArray k1), (X.st, instObj 90 X.sd), (X.sd, dStr w.params U 1 X.sp X.fn), (X.fn, lamObj pm X.cl X.co ctv), (X.co, oc), (X.cl, cob), (X.sg, listOf (sgV signs.tail.reverse).toArray k')] := Mine.News.told N (h' := h2) rfl (by
      intro p hp
      simp only [List.mem_cons, List.not_mem_nil, or_false] at hp
      rcases hp with rfl | rfl | rfl | rfl | rfl | rfl | rfl | rfl | rfl
      all_goals first | exact hcl | exact hsg | exact kk _ _ (not_mem2 (by refine neN ?_; walk_at "om") (by refine neN ?_; walk_at "om")) (N.get (by k_mem)))
    clear F N hn kk hcl hsg
    iterate 9 walk1
    by_cases hb : (rcV signs == Str.ofString "\n") = true
    · rw [if_pos hb]
      have hn' : rcN n signs = n + 1 := by
        cases signs with
        | nil => exact absurd hb (by decide)
        | cons p r =>
          have e : (Str.mk #[p.1]) = Str.ofString "\n" := eq_of_beq hb
          have e2 : (Str.mk #[p.1]).cps.toList = (Str.ofString "\n").cps.toList := by rw [e]
          have e3 : [p.1] = [10] := e2
          show (if p.1 = 10 then n + 1 else n) = _
          rw [if_pos (by simpa using e3)]
      k_steps
      dsimp only
      k_steps
      (with_reducible rename Fr _ _ _ _ => F3)
      (with_reducible rename News _ _ _ _ => N3)
      rw [hn'] at h
      exact h _ _ _ (LexBack.of N3 rfl (I.keepBack F3) (IsLex.of hnd hc hoc hq))
    · rw [if_neg hb]
      have hn' : rcN n signs = n := by
        cases signs with
        | nil => rfl
        | cons p r =>
          show (if p.1 = 10 then n + 1 else n) = _
          rw [if_neg]
          intro e
          exact hb (by show (Str.mk #[p.1] == Str.ofString "\n") = true; rw [e]; rfl)
      k_steps
      (with_reducible rename Fr _ _ _ _ => F3)
      (with_reducible rename News _ _ _ _ => N3)
      rw [hn'] at h
      exact h _ _ _ (LexBack.of N3 rfl (I.keepBack F3) (IsLex.of hnd hc hoc hq))
end
end
section
open PySem PySem.W PySem.Calls PyProof.Rows PySem.Builtin
set_option maxRecDepth 100000
theorem slot_cit_iter : Slot "callable_iterator" "__iter__" "callable_iterator.__iter__" :=
  .of (owner := "callable_iterator") (n := "__iter__") (by rw [typeLookup_type, builtinLookup_eq_fast]; kernel_rfl) (by decide +kernel) (by decide +kernel) (by decide +kernel)
    (by first | exact .inl (by decide +kernel) | exact .inr (by decide +kernel)) (by rw [isSubtype_type]; kernel_rfl)
theorem slot_cit_next : Slot "callable_iterator" "__next__" "callable_iterator.__next__" :=
  .of (owner := "callable_iterator") (n := "__next__") (by rw [typeLookup_type, builtinLookup_eq_fast]; kernel_rfl) (by decide +kernel) (by decide +kernel) (by decide +kernel)
    (by first | exact .inl (by decide +kernel) | exact .inr (by decide +kernel)) (by rw [isSubtype_type]; kernel_rfl)
theorem entry_cit_next : entryFor table "callable_iterator.__next__" = some Builtin.«callable_iterator.__next__» := entryFor_of_fast (by kernel_rfl)
theorem entry_cit_iter : entryFor table "callable_iterator.__iter__" = some Builtin.«dict_keyiterator.__iter__» :=
  entryFor_alias (id' := "dict_keyiterator.__iter__") (by kernel_rfl) rfl (by decide +kernel) (by kernel_rfl)
theorem args_cit_iter (a : Value) : argsOk "callable_iterator.__iter__" ⟨[a], []⟩ := by unfold argsOk; kernel_rfl
theorem args_cit_next (a : Value) : argsOk "callable_iterator.__next__" ⟨[a], []⟩ := by unfold argsOk; kernel_rfl
theorem call_method_slot : ∃ id, typeLookup (.type "method") "__call__" = pure (some (.builtin id)) := ⟨"method.__call__", by rw [typeLookup_type, builtinLookup_eq_fast]; kernel_rfl⟩
theorem kind_iter : builtinKind "iter" = none := by decide +kernel
theorem plain_iter : plainId "iter" = true := by decide +kernel
theorem entry_iter : entryFor table "iter" = some Builtin.«iter» := entryFor_of_tree (by kernel_rfl)
theorem args_iter2 (a b : Value) : argsOk "iter" ⟨[a, b], []⟩ := by unfold argsOk; kernel_rfl
noncomputable abbrev citObj (f : Value) (t : Tok) : Obj := { cls := .type "callable_iterator", data := .fields #[f, .str "" t, .bool false] }
noncomputable abbrev citEnd : Obj := { cls := .type "callable_iterator", data := .fields #[.none, .none, .bool true] }
section
variable {prog : Program} {w : World} {A : Around} {E : Value → Shared → Prop} {s : Shared}
theorem pyIter_cit {it : Addr} {o : Obj} {Q : Value → Shared → Prop} (ho : s.heap.get? it = some o) (hc : o.cls = .type "callable_iterator") (h : Q (.ref it) s) : wpAny (model prog w) A (pyIter (.ref it)) Q E s := by
  have hT : s.TypeIs (.ref it) "callable_iterator" := ⟨o, ho, hc⟩
  refine wpAny_pyIter_slot hT slot_cit_iter (wpAny_call_entry slot_cit_iter hT entry_cit_iter ?_ (args_cit_iter _))
  show wpAny _ _ (ret (.ref it)) _ _ s
  exact wpAny_pure ⟨_, rfl, "callable_iterator", _, hT, slot_cit_next.lookup, h⟩
theorem call_iter2 {q : Addr} {f self : Value} {t : Tok} {Q : Value → Shared → Prop} (hq : s.heap.get? q = some (methodObj f self))
    (h : Q (.ref s.heap.objs.size) { s with heap := s.heap.push (citObj (.ref q) t) }) : wpAny (model prog w) A (call (.builtin "iter") [.ref q, .str "" t]) Q E s := by
  obtain ⟨id, hl⟩ := call_method_slot
  refine call_function_entry kind_iter plain_iter entry_iter (args_iter2 _ _) ?_
  unfold Builtin.«iter»
  refine wpAny_bind (wpAny_of_eq (show someArgs "iter" 1 2 ⟨[.ref q, .str "" t], []⟩ = pure [.ref q, .str "" t] from rfl) ?_)
  dsimp only
  refine wpAny_bind (wpAny_specialOf ⟨_, hq, rfl⟩ hl ?_)
  dsimp only [Option.isNone]
  rw [if_neg (by simp)]
  refine wpAny_bind (wpAny_rule (wpAny_bind (wpAny_newObj_type ?_ (by size_fits))))
  exact wpAny_pure ⟨_, rfl, h⟩
theorem wp_stop {α : Type} {Q : α → Shared → Prop} (hh : A.handled = none) (h : ∀ e h', (∀ b o, s.heap.get? b = some o → h'.get? b = some o) → (∃ o, h'.get? e = some o ∧ o.cls = .type "StopIteration") → E (.ref e) { s with heap := h' }) :
    wpAny (model prog w) A (PySem.Builtin.SmallTypes.stopIteration : Sem α) Q E s := by
  unfold PySem.Builtin.SmallTypes.stopIteration
  refine wpAny_bind ?_
  simp only [newExc, newTuple]
  refine wpAny_bind (wpAny_newObj_type ?_ (by size_fits))
  refine wpAny_bind (m := firstArgMember _ _) (wpAny_of_eq (a := Value.none) (by first | rfl | (simp only [firstArgMember]; rfl)) ?_)
  refine wpAny_newObj_type ?_ (by size_fits)
  simp only [raiseNew]
  refine wpAny_bind (wpAny_handled ?_)
  rw [hh]
  refine wpAny_bind (wpAny_pure (wpAny_throw ?_))
  exact h _ _ (fun b o e => Heap.get?_push_of_some _ (Heap.get?_push_of_some _ e)) ⟨_, Heap.get?_push_size _ rfl, rfl⟩
theorem borrows_method {q f : Addr} {self : Value} {fo : Obj} {fd : FuncData} {Q : Bool → Shared → Prop} (hq : s.heap.get? q = some (methodObj (.ref f) self)) (hf : s.heap.get? f = some fo) (hd : fo.data = .func fd) (h : Q true s) :
    wpAny (model prog w) A (borrowsExactly (.ref q)) Q E s := by
  unfold borrowsExactly
  refine wpAny_bind (wpAny_load hq ?_)
  dsimp only
  rw [if_pos (by rfl)]
  show wpAny _ _ (do match (← load f).data with | .func _ => pure true | _ => pure false) _ _ s
  refine wpAny_bind (wpAny_load hf ?_)
  rw [hd]
  exact wpAny_pure h
theorem call_sem {α : Type} {Q : α → Shared → Prop} {c : Code} {hd : Option Value} {g : Bool} {l : List Value} {k : Result → Sem α} (hc : codeAny (model prog w) (A.mark hd) c (fun r s' => wpAny (model prog w) A (k r) Q E s') s) (hnb : hd ≠ some byPass) :
    wpAny (model prog w) A (.call c hd g l k) Q E s := fun Γ p hΓ => wpCode_mono (fun _ _ q => q Γ p hΓ) (hc _ p rfl (hΓ.enter c hd p hnb))
theorem next_cit {it q f : Addr} {self : Value} {ts : Tok} {fo : Obj} {fd : FuncData} {Q : Option Value → Shared → Prop} (hh : A.handled = none) (hit : s.heap.get? it = some (citObj (.ref q) ts)) (hq : s.heap.get? q = some (methodObj (.ref f) self)) (hf : s.heap.get? f = some fo) (hd : fo.data = .func fd)
    (hc : codeAny (model prog w) A.in1 (.call (.ref q) ⟨[], []⟩) (fun r s' => ∃ x t, r = .ok (.ret (.str x t)) ∧ s'.heap.get? it = some (citObj (.ref q) ts) ∧ s'.heap.get? q = some (methodObj (.ref f) self) ∧ s'.heap.get? f = some fo ∧
      (x ≠ "" → Q (some (.str x t)) s') ∧ (x = "" → ∀ h', (∀ b o, b ≠ it → s'.heap.get? b = some o → h'.get? b = some o) → h'.get? it = some citEnd → Q none { s' with heap := h' })) s) :
    wpAny (model prog w) A (pyNext (.ref it)) Q E s := by
  have hT : s.TypeIs (.ref it) "callable_iterator" := ⟨_, hit, rfl⟩
  unfold pyNext
  refine wpAny_bind (wpAny_attempt (wpAny_callSpecial?_slot (name := Str.ofString "__next__") hT slot_cit_next
    (wpAny_call_entry slot_cit_next hT entry_cit_next ?_ (args_cit_next _))))
  unfold Builtin.«callable_iterator.__next__»
  refine wpAny_bind (wpAny_of_eq (show slotArgs "__next__" 0 ⟨[.ref it], []⟩ = pure (.ref it, []) from rfl) ?_)
  dsimp only
  refine wpAny_bind (wpAny_field hit rfl (x := .bool false) rfl ?_)
  rw [if_neg (by decide)]
  refine wpAny_bind (wpAny_field hit rfl (x := .ref q) rfl ?_)
  refine wpAny_bind (wpAny_attempt ?_)
  unfold callOutOfASlot
  refine wpAny_bind (borrows_method hq hf hd ?_)
  rw [if_pos rfl]
  unfold callBorrowed
  refine call_sem (hd := none) ?_ (by intro h; cases h)
  rw [show A.in1.mark none = A.in1 from by obtain ⟨a, b, c, d, e⟩ := A; cases a <;> rfl]
  refine codeAny_mono hc ?_
  rintro r s' ⟨x, t, rfl, hit', hq', hf', h1, h2⟩
  refine wpAny_pure ?_
  dsimp only
  refine wpAny_bind (wpAny_field hit' rfl (x := .bool false) rfl ?_)
  rw [if_neg (by decide)]
  refine wpAny_bind (wpAny_field hit' rfl (x := .str "" ts) rfl ?_)
  refine wpAny_bind (wpAny_holding (wpAny_eqBool_str ?_))
  by_cases hx : x = ""
  · subst hx
    rw [if_neg (by decide)]
    refine wpAny_bind (wpAny_rule (wpAny_bind ?_))
    show wpAny _ _ (field (.ref it) 0 >>= fun old => slotLetsGo "callable_iterator.__next__" old _ >>= fun _ => setField (.ref it) 0 .none >>= fun _ => setField (.ref it) 1 .none >>= fun _ => setField (.ref it) 2 (.bool true)) _ _ _
    refine wpAny_bind (wpAny_field hit' rfl (x := .ref q) rfl ?_)
    refine wpAny_bind ?_
    unfold slotLetsGo
    refine wpAny_bind (borrows_method hq' hf' hd ?_)
    rw [if_pos rfl]
    refine wpAny_pure ?_
    refine wpAny_bind (wpAny_setField_rec hit' (by simp) fun ha ga sa => ?_)
    refine wpAny_bind (wpAny_setField_rec ga (by simp) fun hb gb sb => ?_)
    refine wpAny_setField_rec gb (by simp) fun hx2 gc sc => ?_
    refine wp_stop hh fun e h' kk he => ?_
    obtain ⟨oe, he, hce⟩ := he
    refine wpAny_bind (wpAny_isInstance (T := "StopIteration") (b := true) ⟨oe, he, hce⟩ isSubtype_stop ?_)
    rw [if_pos rfl]
    refine wpAny_pure (h2 rfl h' (fun b o ne eb => kk _ _ ((sc.2 b ne).trans ((sb.2 b ne).trans ((sa.2 b ne).trans eb)))) (kk _ _ gc))
  · rw [if_pos (by simp; exact fun e => hx e.symm)]
    exact wpAny_bind (wpAny_pure (wpAny_pure ⟨_, rfl, wpAny_pure (h1 hx)⟩))
theorem next_cit_end {it : Addr} {Q : Option Value → Shared → Prop} (hh : A.handled = none) (hit : s.heap.get? it = some citEnd)
    (h : ∀ h', (∀ b o, s.heap.get? b = some o → h'.get? b = some o) → Q none { s with heap := h' }) : wpAny (model prog w) A (pyNext (.ref it)) Q E s := by
  have hT : s.TypeIs (.ref it) "callable_iterator" := ⟨_, hit, rfl⟩
  unfold pyNext
  refine wpAny_bind (wpAny_attempt (wpAny_callSpecial?_slot (name := Str.ofString "__next__") hT slot_cit_next
    (wpAny_call_entry slot_cit_next hT entry_cit_next ?_ (args_cit_next _))))
  unfold Builtin.«callable_iterator.__next__»
  refine wpAny_bind (wpAny_of_eq (show slotArgs "__next__" 0 ⟨[.ref it], []⟩ = pure (.ref it, []) from rfl) ?_)
  dsimp only
  refine wpAny_bind (wpAny_field hit rfl (x := .bool true) rfl ?_)
  rw [if_pos (by decide)]
  refine wpAny_bind (wpAny_rule ?_)
  refine wpAny_bind (wp_stop hh fun e h' kk he => ?_)
  obtain ⟨oe, he, hce⟩ := he
  refine wpAny_bind (wpAny_isInstance (T := "StopIteration") (b := true) ⟨oe, he, hce⟩ isSubtype_stop ?_)
  rw [if_pos rfl]
  exact wpAny_pure (h h' kk)
end
end
theorem Again.at3 {M : Model} {A : Around} {env : Env} {Q : Flow → Shared → Prop} {E : Value → Shared → Prop} {s : Shared} (h : Q .next s) : wpAny M A (execs [] env) Q E s := by w_top off; walk1; exact h
section
set_option maxRecDepth 100000
section
variable {w : World} {mg mb : Str → Option Value} {h₀ : Heap} {A : Around} {R : Result → Shared → Prop} {s : Shared}
set_option maxHeartbeats 2000000
theorem gettok_pend (G : Gnd w mg mb h₀) (st : h₀.StaysIn s.heap) (hroom : A.depth < 800) {X : LX} {n : Int} {x : Str} {t : Tok} {pend : List (Str × Tok)} {signs : List (Nat × Tok)} {l : List (Addr × Obj)}
    (hl : IsLex w.params X n ((x, t) :: pend) signs l) (hn : Led h₀ s.heap l) (hz : pend.length ≤ 1000000)
    (h : ∀ h' tk, LexBack w.params X n pend signs l s.heap h' → R (.ok (.ret (.str x t))) { s with heap := h', toks := tk }) :
    codeAny (model PG w) A (.call (.ref 80) ⟨[.ref X.lx], []⟩) R s := by
  refine hideP fun G9 hG9 => ?_
  obtain ⟨hnd, T, t1, U, pm, ctv, cob, oc, vs, tq, k1, k2, rfl, hc, hoc, hq⟩ := hl
  refine hG9 ?_
  clear hG9
  refine hideP fun G9 hG9 => ?_
  obtain ⟨o1, o2, o3, o4, o5, o6, o7, o8⟩ := id hnd
  refine hG9 ?_
  clear hG9
  refine enter G st (by with_unfolding_all rfl) (by with_unfolding_all rfl) (by show A.depth < 1000; walk_at "om") (BindsTo.of_eq (binds := [("self", .ref X.lx)]) rfl) (by exact locs rfl) _ hn ?_
  intro g L' h₁ tk I F N G'
  have XK := G'.k
  obtain ⟨me, TT⟩ := G'.t
  have hsz : (strValues ((x, t) :: pend)).toArray.size = pend.length + 1 := by simp [strValues]
  iterate 6 walk1
  refine wpAny_truthy_list (items := (strValues ((x, t) :: pend)).toArray) ⟨_, N.get (by k_mem), rfl, _, rfl⟩ (by rw [hsz]; walk_at "om") ?_
  rw [if_pos (by simp [strValues])]
  dsimp only
  iterate 7 walk1
  refine kl_method N (by k_mem) PySem.F.slot_list_pop PySem.F.type_list_pop ?_
  iterate 4 walk1
  refine kl_popAt (k := 0) (p := []) (q := strValues pend) (y := .str x t) F N (by decide) (by rw [hsz]; unfold seqIndex?; simp) (by simp [strValues]; rfl) (.tail (by refine neN ?_; walk_at "om") (.tail (by refine neN ?_; walk_at "om") (.head ?_))) (by simp [strValues, sizeLine_eq]; walk_at "om") ?_
  · intro p hp
    simp only [List.mem_cons, List.not_mem_nil, or_false] at hp
    rcases hp with rfl | rfl | rfl | rfl | rfl | rfl <;> (refine neN ?_; dsimp only; walk_at "om")
  intro h' F' N'
  k_steps
  exact h _ _ (LexBack.of N' rfl (I.keepBack F') (IsLex.of hnd hc hoc hq))
theorem upd3 {a b c : Addr} {o1 o2 o o' : Obj} {r : List (Addr × Obj)} (h1 : a ≠ c) (h2 : b ≠ c) (h3 : ∀ p ∈ r, p.1 ≠ c) : Upd c o o' ((a, o1) :: (b, o2) :: (c, o) :: r) ((a, o1) :: (b, o2) :: (c, o') :: r) := .tail h1 (.tail h2 (.head h3))
theorem pushtok (G : Gnd w mg mb h₀) (st : h₀.StaysIn s.heap) (hroom : A.depth < 800) {X : LX} {n : Int} {x : Str} {t : Tok} {pend : List (Str × Tok)} {signs : List (Nat × Tok)} {l : List (Addr × Obj)}
    (hl : IsLex w.params X n pend signs l) (hn : Led h₀ s.heap l) (hz : pend.length ≤ 1000000)
    (h : ∀ h' tk, LexBack w.params X n (pend ++ [(x, t)]) signs l s.heap h' → R (.ok (.ret .none)) { s with heap := h', toks := tk }) :
    codeAny (model PG w) A (.call (.ref 87) ⟨[.ref X.lx, .str x t], []⟩) R s := by
  refine hideP fun G9 hG9 => ?_
  obtain ⟨hnd, T, t1, U, pm, ctv, cob, oc, vs, tq, k1, k2, rfl, hc, hoc, hq⟩ := hl
  refine hG9 ?_
  clear hG9
  refine hideP fun G9 hG9 => ?_
  obtain ⟨o1, o2, o3, o4, o5, o6, o7, o8⟩ := id hnd
  refine hG9 ?_
  clear hG9
  refine enter G st (by with_unfolding_all rfl) (by with_unfolding_all rfl) (by show A.depth < 1000; walk_at "om") (BindsTo.of_eq (binds := [("self", .ref X.lx), ("token", .str x t)]) rfl) (by exact locs rfl) _ hn ?_
  intro g L' h₁ tk I F N G'
  have XK := G'.k
  obtain ⟨me, TT⟩ := G'.t
  iterate 6 walk1
  refine kl_method N (by k_mem) PySem.F.slot_list_append PySem.F.type_list_append ?_
  iterate 4 walk1
  refine append_K F N (upd3 (by refine neN ?_; walk_at "om") (by refine neN ?_; walk_at "om") ?_) ?_ (by simp [strValues, sizeLine_eq]; walk_at "om")
  · intro p hp
    simp only [List.mem_cons, List.not_mem_nil, or_false] at hp
    rcases hp with rfl | rfl | rfl | rfl | rfl | rfl <;> (refine neN ?_; dsimp only; walk_at "om")
  intro h' F' N'
  rw [push_str] at N'
  k_steps
  exact h _ _ (LexBack.of N' rfl (I.keepBack F') (IsLex.of hnd hc hoc hq))
end
end
theorem Again.at4 {M : Model} {A : Around} {env : Env} {Q : Flow → Shared → Prop} {E : Value → Shared → Prop} {s : Shared} (h : Q .next s) : wpAny M A (execs [] env) Q E s := by w_top off; walk1; exact h
section
set_option maxRecDepth 100000
noncomputable def tk5 (a b c d e : Tok) : Nat → Tok
  | 0 => a
  | 2 => b
  | 3 => c
  | 4 => d
  | _ => e
noncomputable def tk7 (a b c d e f g : Tok) : Nat → Tok
  | 0 => a
  | 1 => b
  | 2 => c
  | 3 => d
  | 4 => e
  | 5 => f
  | _ => g
section
variable {w : World} {mg mb : Str → Option Value} {g h₀ : Heap} {A : Around} {R : Result → Shared → Prop} {s s' : Shared} {E : Value → Shared → Prop}
set_option maxHeartbeats 2000000
theorem init_spec (G : Gnd w mg mb h₀) (st : h₀.StaysIn s.heap) (hroom : A.depth < 900) {sl fl : Addr} {v : Value} (hlt : @LT.lt Nat _ fl sl) (hn : Led h₀ s.heap [(sl, instObj 90 fl), (fl, dictOf [] 0)])
   (h : ∀ h' tk pb T t1 k, Keep [sl, fl] s.heap h' → h'.get? sl = some (instObj 90 fl) → h'.get? fl = some (dLex w.params T t1 1 v pb) → h'.get? pb = some (listOf (strValues []).toArray k) → @LT.lt Nat _ sl pb → s.heap.get? pb = none →
     R (.ok (.ret .none)) { s with heap := h', toks := tk }) :
   codeAny (model PG w) A (.call (.ref 66) ⟨[.ref sl, v], []⟩) R s := by
  refine enter G st (by with_unfolding_all rfl) (by with_unfolding_all rfl) (by show A.depth < 1000; walk_at "om") (BindsTo.of_eq (binds := [("self", .ref sl), ("fp", v)]) rfl) (by exact locs rfl) _ hn ?_
  intro g L' h₁ tk I F N G'
  have XK := G'.k
  obtain ⟨me, TT⟩ := G'.t
  have hne : sl ≠ fl := neN (Nat.ne_of_gt hlt)
  k_steps
  (with_reducible rename Fr _ _ _ _ => F2)
  (with_reducible rename News _ _ _ _ => N2)
  (with_reducible rename _ ∧ _ => lts)
  have kb := I.keepBack F2
  have p1 := N2 _ (.head _)
  refine h _ _ _ (tk5 _ _ _ _ _) _ _ kb (N2 _ (.tail _ (.head _))).1 (N2 _ (.tail _ (.tail _ (.head _)))).1 p1.1 lts.1 (I.fresh p1.2.2 ?_)
  simp only [List.map_cons, List.map_nil, List.mem_cons, List.not_mem_nil, or_false]
  rintro (e | e)
  · exact Nat.ne_of_gt lts.1 e
  · exact Nat.ne_of_gt lts.2 e
theorem push_st (G : Gnd w mg mb h₀) (st0 : h₀.StaysIn s.heap) (hroom : A.depth < 800) {x : Str} {t : Tok} {st sd sp fn : Addr} {U : Nat → Tok} {k : Nat} (o1 : @LT.lt Nat _ sd st) (o2 : @LT.lt Nat _ st sp)
    (hn : Led h₀ s.heap [(st, instObj 90 sd), (sd, dStr w.params U 1 sp fn), (sp, listOf (strValues []).toArray k)])
    (h : ∀ h' tk, Keep [sp] s.heap h' → R (.ok (.ret .none)) { s with heap := h', toks := tk }) :
    codeAny (model PG w) A (.call (.ref 87) ⟨[.ref st, .str x t], []⟩) R s := by
  refine enter G st0 (by with_unfolding_all rfl) (by with_unfolding_all rfl) (by show A.depth < 1000; walk_at "om") (BindsTo.of_eq (binds := [("self", .ref st), ("token", .str x t)]) rfl) (by exact locs rfl) _ hn ?_
  intro g L' h₁ tk I F N G'
  have XK := G'.k
  obtain ⟨me, TT⟩ := G'.t
  iterate 6 walk1
  refine kl_method N (by k_mem) PySem.F.slot_list_append PySem.F.type_list_append ?_
  iterate 4 walk1
  refine append_K F N (.tail (by refine neN ?_; walk_at "om") (.tail (by refine neN ?_; walk_at "om") (.head (fun p hp => by cases hp)))) ?_ (by simp [strValues, sizeLine_eq])
  intro h' F' N'
  k_steps
  refine h _ _ fun b o hb e => ?_
  by_cases h1 : b = st
  · subst h1
    rw [(hn _ (.head _)).1] at e
    exact e ▸ (N' _ (.head _)).1
  by_cases h2 : b = sd
  · subst h2
    rw [(hn _ (.tail _ (.head _))).1] at e
    exact e ▸ (N' _ (.tail _ (.head _))).1
  · refine I.keepBack F' b o ?_ e
    simp only [List.map_cons, List.map_nil, List.mem_cons, List.not_mem_nil, or_false, not_or] at hb ⊢
    exact ⟨h1, h2, hb⟩
end
end
theorem Again.at5 {M : Model} {A : Around} {env : Env} {Q : Flow → Shared → Prop} {E : Value → Shared → Prop} {s : Shared} (h : Q .next s) : wpAny M A (execs [] env) Q E s := by w_top off; walk1; exact h
section
set_option maxRecDepth 100000
section
variable {w : World} {mg mb : Str → Option Value} {g h₀ : Heap} {A : Around} {R : Result → Shared → Prop} {s s' : Shared} {E : Value → Shared → Prop}
set_option maxHeartbeats 2000000
theorem News.grow2 {h h' : Heap} {L a b c : Addr} {m : Str → Option Value} {oa ob oa' ob' oc : Obj} {rest : List (Addr × Obj)} (F : Fr g L h m) (N : News g L h ((a, oa) :: (b, ob) :: rest)) (k : Keep [a, b] h h')
    (ha : h'.get? a = some oa') (hb : h'.get? b = some ob') (hc : h'.get? c = some oc) (hf : h.get? c = none) (hr : ∀ p ∈ rest, p.1 ≠ a ∧ p.1 ≠ b) : News g L h' ((c, oc) :: (a, oa') :: (b, ob') :: rest) := by
  have N1 : News g L h' ((a, oa') :: (b, ob') :: rest) := Mine.News.told N (by rfl) (fun p hp => by
    cases hp with
    | head => exact ha
    | tail _ hp => cases hp with
      | head => exact hb
      | tail _ hp => exact k _ _ (by simp [hr p hp]) (N p (.tail _ (.tail _ hp))).1)
  exact Mine.News.more (news' := [(c, oc)]) F N1 (fun p hp => by cases hp with
    | head => exact ⟨hc, hf⟩
    | tail _ hp => cases hp)
theorem list_sg {L : Addr} {m : Str → Option Value} {news : List (Addr × Obj)} {Q : Value → Shared → Prop} {x : Str} {t : Tok} (hh : A.handled = none) (F : Fr g L s.heap m) (N : News g L s.heap news)
    (h : ∀ q h' tk k (sg : List (Nat × Tok)), Fr g L h' m → News g L h' ((q, listOf (sgV sg).toArray k) :: news) → sg.map (·.1) = x.cps.toList → (∀ p ∈ news, p.1 < q) → Q (.ref q) { s with heap := h', toks := tk })
    (hz : x.cps.size ≤ sizeLine) : wpAny (model PG w) A (call (.type "list") [.str x t]) Q E s := by
  refine call_list_str hh x t (fun h' tk acc' c' kk hS hi => ?_) hz
  have key : ∀ n, n ≤ x.cps.size → ∃ sg : List (Nat × Tok), acc'.toList.take n = sgV sg ∧ sg.map (·.1) = x.cps.toList.take n := by
    intro n
    induction n with
    | zero => intro _; exact ⟨[], by simp [sgV], by simp⟩
    | succ n ih =>
      intro hn
      obtain ⟨sg, e1, e2⟩ := ih (by walk_at "om")
      have hlt : n < acc'.size := by rw [hi.1]; walk_at "om"
      refine hideP fun G9 hG9 => ?_
      obtain ⟨c, u, hc, hv⟩ := hi.2 n acc'[n] (by rw [Array.getElem?_eq_getElem hlt])
      refine hG9 ?_
      clear hG9
      refine ⟨sg ++ [(c, u)], ?_, ?_⟩
      · rw [List.take_add_one, e1]
        simp [sgV, Array.getElem?_eq_getElem hlt, hv]
      · rw [List.take_add_one, List.map_append, e2]
        simp [hc]
  obtain ⟨sg, e1, e2⟩ := key _ (Nat.le_refl _)
  rw [List.take_of_length_le (by rw [Array.length_toList, hi.1]; exact Nat.le_refl _)] at e1
  rw [List.take_of_length_le (by rw [Array.length_toList]; exact Nat.le_refl _)] at e2
  have e3 : acc' = (sgV sg).toArray := by rw [← e1, Array.toArray_toList]
  obtain ⟨F3, N3, l3⟩ := ks_newsPush (s := s) (o := listOf (sgV sg).toArray c') F N rfl (e3 ▸ hS) kk
  exact h _ _ _ _ _ F3 N3 e2 l3
theorem reader_spec (G : Gnd w mg mb h₀) (st : h₀.StaysIn s.heap) (C : CodeHd h₀ 124 120) (hn : Led h₀ s.heap [(120, tabObj #[])]) (hroom : A.depth < 760) (hh : A.handled = none) {x : Str} {t : Tok} (hz : x.cps.size ≤ 800000)
    (hcr : (Builtin.Str.occurrences x (Str.ofString "\r\r") 0 x.length 1).isEmpty = true)
    (h : ∀ h' tk X l signs, IsLex w.params X 1 [] signs l → (∀ p ∈ l, h'.get? p.1 = some p.2 ∧ s.heap.get? p.1 = none) → Keep [120] s.heap h' → (∃ ps, h'.get? 120 = some (tabObj ps)) → signs.map (·.1) = x.cps.toList → R (.ok (.ret (.ref X.lx))) { s with heap := h', toks := tk }) :
    codeAny (model PG w) A (.call (.ref 125) ⟨[.str x t], []⟩) R s := by
  refine enterC G st (by with_unfolding_all rfl) (by with_unfolding_all rfl) (by show A.depth < 1000; walk_at "om") (BindsTo.of_eq (binds := [("text", .str x t)]) rfl) (by rfl) (by decide) _ hn ?_
  intro g L' h₁ tk cells I F N Y G'
  have XK := G'.k
  obtain ⟨me, TT⟩ := G'.t
  have C' := C.keeps I.base
  obtain ⟨o0, he, d1⟩ := PyProof.Rows.CellsAre.one Y
  subst he
  dsimp only [List.cons_append, List.nil_append] at N
  iterate 7 walk1
  rw [hcr]
  walk1
  rw [if_pos (by decide)]
  iterate 6 walk1
  refine list_sg (by exact hh) F N (fun q h' tk k sg F2 N2 hsg lt2 => ?_) (by rw [sizeLine_eq]; walk_at "om")
  iterate 6 walk1
  (with_reducible rename Fr _ _ _ _ => F3)
  (with_reducible rename News _ _ _ _ => N3)
  refine kl_method N3 (by k_mem) PySem.F.slot_list_reverse PySem.F.type_list_reverse ?_
  iterate 1 walk1
  refine kl_reverse F3 N3 (l := (sgV sg.reverse)) (by simp [sgV]) (.head ?_) (by have := congrArg List.length hsg; simp only [List.length_map, Array.length_toList] at this; simp [sgV, sizeLine_eq]; walk_at "om") fun h' F4 N4 => ?_
  · intro p hp
    have l1 := lt2 _ (.head _)
    have l2 := lt2 _ (.tail _ (.head _))
    cases hp with
    | head => exact Nat.ne_of_lt l1
    | tail _ hp =>
      cases hp with
      | head => exact Nat.ne_of_lt l2
      | tail _ hp => cases hp
  rename_i oc1 dc1
  have N4 : News g L' h' [(q, listOf (sgV sg.reverse).toArray k), (L' + 1, oc1), (120, tabObj #[])] := N4
  have q1 : @LT.lt Nat _ 120 (L' + 1) := Nat.lt_succ_of_lt (I.lt _ (.head _))
  have q2 : @LT.lt Nat _ (L' + 1) q := lt2 _ (.head _)
  clear lt2 N3
  iterate 8 walk1
  refine ⟨XK.keeps F4.keep, ?_⟩
  refine call_cls F4 XK N4 (by k_is) (by k_is) (by k_is) fun st sd h5 F5 N5 l5 l6 => ?_
  have q3 : @LT.lt Nat _ q sd := l5 _ (.head _)
  have l6 : @LT.lt Nat _ sd st := l6
  refine init_spec G' (by exact F5.keep) (by show A.depth + 1 + 1 < 900; walk_at "om") l6 (Mine.News.led fun p hp => N5 p (by cases hp with | head => exact .head _ | tail _ hp => cases hp with | head => exact .tail _ (.head _) | tail _ hp => cases hp)) ?_
  intro h6 tk6 sp T6 t6 k6 kb6 g1 g2 g3 l7 g4
  refine ⟨rfl, ?_⟩
  have N6 := News.grow2 F5 N5 kb6 g1 g2 g3 g4 (fun p hp => ⟨Nat.ne_of_lt (Nat.lt_trans (l5 p hp) l6), Nat.ne_of_lt (l5 p hp)⟩)
  have F6 := Fr.after F5 kb6 (by
    simp only [List.mem_cons, List.not_mem_nil, or_false, not_or]
    exact ⟨fun e => (N5 _ (.head _)).2.1 e.symm, fun e => (N5 _ (.tail _ (.head _))).2.1 e.symm⟩) (by
    intro a ha
    simp only [List.mem_cons, List.not_mem_nil, or_false] at ha
    rcases ha with rfl | rfl
    · exact (N5 _ (.head _)).2.2
    · exact (N5 _ (.tail _ (.head _))).2.2)
  clear F5 N5
  dsimp only
  iterate 3 walk1
  iterate 1 walk1
  (with_reducible rename Fr _ _ _ _ => F7)
  (with_reducible rename News _ _ _ _ => N7)
  refine kla_eval rfl ?_
  refine kla_nest F7 N7 TT C' rfl (ps := #[]) (.tail ?_ (.tail ?_ (.tail ?_ (.tail ?_ (.tail ?_ (.head (fun p hp => by cases hp))))))) (by kn_triples) (by kn_among) rfl fun fn co oc vs tq ctv h8 tk8 F8 N8 hoc hvs l8 l9 => ?_
  iterate 5 (refine neN ?_; dsimp only; walk_at "om")
  have q4 : @LT.lt Nat _ sp co := l8 _ (.head _)
  have q5 : @LT.lt Nat _ co fn := l9
  have N8' : News g L' h8 [(fn, lamObj ((mg (Str.ofString "__name__")).getD Value.none) (L' + 1) co ctv), (co, oc), (sp, listOf (strValues []).toArray k6), (st, instObj 90 sd), (sd, dLex w.params T6 t6 1 Value.none sp), (q, listOf (sgV sg.reverse).toArray k), (L' + 1, oc1), (120, tabObj (#[] ++ #[rawInt ↑88, rawInt ↑18, Value.ref co]))] := by with_unfolding_all exact N8
  clear N8
  replace hvs : vs[1]? = some (Value.str "_law_reader.<locals>.<lambda>" tq) := by with_unfolding_all exact hvs
  clear N7 F7 l8 l5
  iterate 2 walk1
  dsimp only
  (with_reducible rename Fr _ _ _ _ => F9)
  (with_reducible rename News _ _ _ _ => N9)
  have N9' : ∃ U, News g L' _ [(fn, lamObj ((mg (Str.ofString "__name__")).getD Value.none) (L' + 1) co ctv), (co, oc), (sp, listOf (strValues []).toArray k6), (st, instObj 90 sd), (sd, dStr w.params U 1 sp fn), (q, listOf (sgV sg.reverse).toArray k), (L' + 1, oc1), (120, tabObj (#[] ++ #[rawInt ↑88, rawInt ↑18, Value.ref co]))] := ⟨tk7 (T6 0) t6 (T6 2) (T6 3) (T6 4) (T6 5) _, N9⟩
  obtain ⟨U, N10⟩ := N9'
  clear N9
  (with_reducible rename Fr _ _ _ _ => F9)
  iterate 9 walk1
  (with_reducible rename Fr _ _ _ _ => F9)
  (with_reducible rename News _ _ _ _ => N10)
  refine ⟨XK.keeps F9.keep, ?_⟩
  have N11 : News g L' _ [(st, instObj 90 sd), (sd, dStr w.params U 1 sp fn), (fn, lamObj ((mg (Str.ofString "__name__")).getD Value.none) (L' + 1) co ctv), (co, oc), (L' + 1, oc1), (q, listOf (sgV sg.reverse).toArray k), (120, tabObj (#[] ++ #[rawInt ↑88, rawInt ↑18, Value.ref co]))] :=
    List.forall_mem_cons.mpr ⟨N10 _ (by k_mem), List.forall_mem_cons.mpr ⟨N10 _ (by k_mem), List.forall_mem_cons.mpr ⟨N10 _ (by k_mem), List.forall_mem_cons.mpr ⟨N10 _ (by k_mem), List.forall_mem_cons.mpr ⟨N10 _ (by k_mem), List.forall_mem_cons.mpr ⟨N10 _ (by k_mem), List.forall_mem_cons.mpr ⟨N10 _ (by k_mem), List.forall_mem_nil _⟩⟩⟩⟩⟩⟩⟩
  have spn := N10 (sp, _) (by k_mem)
  refine wpAny_call (push_st G' (by exact F9.keep) (by show A.depth + 1 < 800; walk_at "om") l6 l7 (Mine.News.led (L := L') (List.forall_mem_cons.mpr ⟨N10 _ (by k_mem), List.forall_mem_cons.mpr ⟨N10 _ (by k_mem), List.forall_mem_cons.mpr ⟨N10 _ (by k_mem), List.forall_mem_nil _⟩⟩⟩)) fun h10 tk10 kb10 => ?_)
  replace N11 := Mine.News.after N11 kb10 (by
    intro p hp
    simp only [List.mem_cons, List.not_mem_nil, or_false] at hp ⊢
    rcases hp with rfl | rfl | rfl | rfl | rfl | rfl | rfl <;> (refine neN ?_; dsimp only; walk_at "om"))
  have F11 := Fr.after F9 kb10 (by
    simp only [List.mem_cons, List.not_mem_nil, or_false]
    exact fun e => spn.2.1 e.symm) (by
    intro a ha
    simp only [List.mem_cons, List.not_mem_nil, or_false] at ha
    rw [ha]; exact spn.2.2)
  clear N10 F9
  dsimp only
  iterate 8 walk1
  refine ⟨XK.keeps F11.keep, ?_⟩
  refine call_cls F11 XK N11 (by k_is) (by k_is) (by k_is) fun lx ld h12 F12 N12 l12 l13 => ?_
  have q6 : @LT.lt Nat _ fn ld := l12 (fn, _) (by k_mem)
  have l13 : @LT.lt Nat _ ld lx := l13
  refine init_spec G' (by exact F12.keep) (by show A.depth + 1 + 1 < 900; walk_at "om") l13 (Mine.News.led fun p hp => N12 p (by cases hp with | head => exact .head _ | tail _ hp => cases hp with | head => exact .tail _ (.head _) | tail _ hp => cases hp)) ?_
  intro h13 tk13 pb T13 t13 k13 kb13 g1 g2 g3 q7 g4
  refine ⟨rfl, ?_⟩
  have N13 := News.grow2 F12 N12 kb13 g1 g2 g3 g4 (fun p hp => ⟨Nat.ne_of_lt (Nat.lt_trans (l12 p hp) l13), Nat.ne_of_lt (l12 p hp)⟩)
  have F13 := Fr.after F12 kb13 (by
    simp only [List.mem_cons, List.not_mem_nil, or_false, not_or]
    exact ⟨fun e => (N12 _ (.head _)).2.1 e.symm, fun e => (N12 _ (.tail _ (.head _))).2.1 e.symm⟩) (by
    intro a ha
    simp only [List.mem_cons, List.not_mem_nil, or_false] at ha
    rcases ha with rfl | rfl
    · exact (N12 _ (.head _)).2.2
    · exact (N12 _ (.tail _ (.head _))).2.2)
  have kb := I.keepBack F13
  refine h h13 tk13 ⟨lx, ld, pb, st, sd, fn, co, L' + 1, q, sp⟩ _ sg (IsLex.of (pm := ((mg (Str.ofString "__name__")).getD Value.none)) (ctv := ctv) (pend := []) (T := T13) (U := U) (t1 := t13) (k1 := k13) (k2 := k) (cob := oc1) (oc := oc) (vs := vs) (t := tq) ⟨q2, q3, l6, Nat.lt_trans l7 q4, q5, q6, l13, q7⟩ dc1 hoc hvs) ?_ kb ⟨(#[] ++ #[rawInt ↑88, rawInt ↑18, Value.ref co]), (N13 (120, tabObj (#[] ++ #[rawInt ↑88, rawInt ↑18, Value.ref co])) (by k_mem)).1⟩ hsg
  have nf := fun p hp (hl : @LT.lt Nat _ 120 p.1) => And.intro (N13 p hp).1 (I.fresh (N13 p hp).2.2 (fun e => Nat.ne_of_gt hl (List.mem_singleton.mp e)))
  have p1 : @LT.lt Nat _ 120 (L' + 1) := q1
  refine List.forall_mem_cons.mpr ⟨nf _ (by k_mem) (by dsimp only; walk_at "om"), List.forall_mem_cons.mpr ⟨nf _ (by k_mem) (by dsimp only; walk_at "om"), List.forall_mem_cons.mpr ⟨nf _ (by k_mem) (by dsimp only; walk_at "om"), List.forall_mem_cons.mpr ⟨nf _ (by k_mem) (by dsimp only; walk_at "om"), List.forall_mem_cons.mpr ⟨nf _ (by k_mem) (by dsimp only; walk_at "om"), List.forall_mem_cons.mpr ⟨nf _ (by k_mem) (by dsimp only; walk_at "om"), List.forall_mem_cons.mpr ⟨nf _ (by k_mem) (by dsimp only; walk_at "om"), List.forall_mem_cons.mpr ⟨nf _ (by k_mem) (by dsimp only; walk_at "om"), List.forall_mem_cons.mpr ⟨nf _ (by k_mem) (by dsimp only; walk_at "om"), List.forall_mem_nil _⟩⟩⟩⟩⟩⟩⟩⟩⟩
end
end
section
set_option maxRecDepth 100000
noncomputable abbrev riObj (x left step : Int) : Obj := { cls := .type "range_iterator", dict := none, data := .fields #[rawInt x, rawInt left, rawInt step], slots := #[] }
section
variable {prog : Program} {w : World} {g : Heap} {A : Around} {R : Result → Shared → Prop} {s : Shared} {E : Value → Shared → Prop} {L a : Addr} {m : Str → Option Value} {news : List (Addr × Obj)} {cn : Str} {cs : Scope} {ccd : Value} {cl : List (Str × Addr)} {x : Str} {px : Pos} {body : List Stmt}
inductive TurnOk (s : Shared) (g : Heap) (L : Addr) (J : (Str → Option Value) → List (Addr × Obj) → Prop) (it : Addr) (o : Obj) (s₂ : Shared) : Prop
  | mk (h : Heap) (tk : Nat) (m : Str → Option Value) (news : List (Addr × Obj)) (e : s₂ = { s with heap := h, toks := tk }) (F : Fr g L h m) (N : News g L h ((it, o) :: news)) (j : J m news)
noncomputable def TurnTo (s : Shared) (g : Heap) (L : Addr) (J : (Str → Option Value) → List (Addr × Obj) → Prop) (it : Addr) (o : Obj) (R : Result → Shared → Prop) (f : Flow) (s₂ : Shared) : Prop := match f with
  | .next | .cont => TurnOk s g L J it o s₂
  | .brk => R (.ok .next) s₂
  | .ret v => R (.ok (.ret v)) s₂
inductive RAt (s : Shared) (g : Heap) (L it : Addr) (x0 c : Int) (n : Nat) (J : Nat → (Str → Option Value) → List (Addr × Obj) → Prop) (k : Nat) (s' : Shared) : Prop
  | mk (h' : Heap) (tk : Nat) (m' : Str → Option Value) (news' : List (Addr × Obj)) (i : Nat) (e : s' = { s with heap := h', toks := tk }) (F : Fr g L h' m') (N : News g L h' ((it, riObj (x0 + (i : Nat) * c) ((n : Int) - (i : Nat)) c) :: news')) (j : J i m' news') (hi : i ≤ n) (ek : k = n + 1 - i)
inductive LAt (s : Shared) (g : Heap) (L it l : Addr) (n : Nat) (J : Nat → (Str → Option Value) → List (Addr × Obj) → Prop) (k : Nat) (s' : Shared) : Prop
  | mk (h' : Heap) (tk : Nat) (m' : Str → Option Value) (news' : List (Addr × Obj)) (i : Nat) (o' : Obj) (e : s' = { s with heap := h', toks := tk }) (F : Fr g L h' m') (N : News g L h' ((it, o') :: news')) (hc : o'.cls = .type "list_iterator") (hd : o'.data = .fields #[.ref l, .int (i : Nat) 0]) (j : J i m' news') (hi : i ≤ n) (ek : k = n + 1 - i)
theorem loopRange (hh : A.handled = none) {it : Addr} {x0 c : Int} {n : Nat} (J : Nat → (Str → Option Value) → List (Addr × Obj) → Prop)
    (F : Fr g L s.heap m) (N : News g L s.heap ((it, riObj x0 n c) :: news)) (h0 : J 0 m news) (hap : ∀ i m news, J i m news → ∀ p ∈ news, p.1 ≠ it)
    (step : ∀ i t m' news' h' tk (Qt : Flow → Shared → Prop) (Et : Value → Shared → Prop), (∀ f s₂, TurnTo s g L (J (i + 1)) it (riObj (x0 + (i + 1 : Nat) * c) (n - (i + 1 : Nat)) c) R f s₂ → Qt f s₂) → (∀ e s₂, notedBy (model prog w) A (envX cn cs L a ccd cl) (fun e s' => R (.error e) s') e s₂ → Et e s₂) → i < n → J i m' news' → Fr g L h' (fun y => if y = x then some (.int (x0 + i * c) t) else m' y) → News g L h' ((it, riObj (x0 + (i + 1 : Nat) * c) (n - (i + 1 : Nat)) c) :: news') →
      wpAny (model prog w) A (execs body (envX cn cs L a ccd cl)) Qt Et { s with heap := h', toks := tk })
    (hR : ∀ h' tk m' news', J n m' news' → Fr g L h' m' → News g L h' news' → R (.ok .next) { s with heap := h', toks := tk })
    (hk : cs.kind = .function := by rfl) (hx : (envX cn cs L a ccd cl).kindOf x = some .local := by rfl) :
    codeAny (model prog w) A (.forLoop (.Name x px) (.ref it) body [] (envX cn cs L a ccd cl)) R s := by
  have hL : L ≠ it := fun e => (N _ (.head _)).2.1 e.symm
  refine codeAny_forLoop
    (RAt s g L it x0 c n J) ?_ (n + 1) ⟨s.heap, s.toks, m, news, 0, rfl, F, by simpa using N, h0, Nat.zero_le _, rfl⟩
  rintro k s' ⟨h', tk, m', news', i, rfl, F', N', hJ, hi, rfl⟩
  by_cases hlt : i < n
  · refine wpAny_pyNext_range_item (N'.get (.head _)) (by (first | lia | omega)) fun h₁ hit₁ hs₁ => ?_
    have F1 : Fr g L h₁ m' := ⟨F'.ns.sameBut hs₁ hL, fun b ob e => (hs₁.2 b (fun q => by rw [q, (N' _ (.head _)).2.2] at e; cases e)).trans (F'.keep b ob e), F'.above⟩
    have N1 := News.setHead N' (fun p hp => hap _ _ _ hJ p hp) hs₁ hit₁
    refine wpAny_assign_Name (storeX_L F1 N1 (fun h₂ F2 N2 => ?_) hk hx)
    have e1 : x0 + ((i + 1 : Nat) : Int) * c = x0 + (i : Int) * c + c := by push_cast; rw [Int.add_mul, Int.one_mul, Int.add_assoc]
    have e2 : (n : Int) - ((i + 1 : Nat) : Int) = (n : Int) - (i : Int) - 1 := by push_cast; (first | lia | omega)
    refine wpAny_mono (step i _ m' news' h₂ _ _ _ (fun _ _ x => x) (fun _ _ x => x) hlt hJ F2 (by rw [e1, e2]; exact N2)) (fun f s₃ h₃ => ?_) fun _ _ e => e
    cases f with
    | brk => exact h₃
    | ret v => exact h₃
    | next =>
      refine hideP fun G9 hG9 => ?_
      obtain ⟨h3, tk3, m3, n3, rfl, F3, N3, J3⟩ := h₃
      refine hG9 ?_
      clear hG9
      exact ⟨n + 1 - (i + 1), subL (Nat.lt_succ_of_lt hlt), h3, tk3, m3, n3, i + 1, rfl, F3, N3, J3, hlt, rfl⟩
    | cont =>
      refine hideP fun G9 hG9 => ?_
      obtain ⟨h3, tk3, m3, n3, rfl, F3, N3, J3⟩ := h₃
      refine hG9 ?_
      clear hG9
      exact ⟨n + 1 - (i + 1), subL (Nat.lt_succ_of_lt hlt), h3, tk3, m3, n3, i + 1, rfl, F3, N3, J3, hlt, rfl⟩
  · have hin : i = n := by (first | lia | omega)
    subst hin
    refine wpAny_pyNext_range_end hh (N'.get (.head _)) (by (first | lia | omega)) fun h₁ he₁ => wpAny_execs_nil ?_
    refine hR h₁ tk m' news' hJ ⟨F'.ns.extBut he₁ hL, fun b o e => he₁ b o (fun q => by rw [q, (N' _ (.head _)).2.2] at e; cases e) (F'.keep b o e), F'.above⟩ fun p hp => ⟨he₁ _ _ (hap _ _ _ hJ p hp) (N' p (.tail _ hp)).1, (N' p (.tail _ hp)).2⟩
theorem loopList (hh : A.handled = none) {it l : Addr} {items : Array Value} {oi : Obj} (J : Nat → (Str → Option Value) → List (Addr × Obj) → Prop)
    (hl : ∀ i m news, J i m news → ∀ h, Fr g L h m → News g L h news → h.IsList l items)
    (F : Fr g L s.heap m) (N : News g L s.heap ((it, oi) :: news)) (hc : oi.cls = .type "list_iterator") (hd : oi.data = .fields #[.ref l, .int (0 : Nat) 0]) (h0 : J 0 m news) (hap : ∀ i m news, J i m news → ∀ p ∈ news, p.1 ≠ it)
    (step : ∀ i v m' news' h' tk o' (Qt : Flow → Shared → Prop) (Et : Value → Shared → Prop), (∀ f s₂, TurnTo s g L (J (i + 1)) it o' R f s₂ → Qt f s₂) → (∀ e s₂, notedBy (model prog w) A (envX cn cs L a ccd cl) (fun e s' => R (.error e) s') e s₂ → Et e s₂) → items[i]? = some v → J i m' news' → Fr g L h' (fun y => if y = x then some v else m' y) → News g L h' ((it, o') :: news') →
      wpAny (model prog w) A (execs body (envX cn cs L a ccd cl)) Qt Et { s with heap := h', toks := tk })
    (hR : ∀ h' tk m' news', J items.size m' news' → Fr g L h' m' → News g L h' news' → R (.ok .next) { s with heap := h', toks := tk })
    (hk : cs.kind = .function := by rfl) (hx : (envX cn cs L a ccd cl).kindOf x = some .local := by rfl) :
    codeAny (model prog w) A (.forLoop (.Name x px) (.ref it) body [] (envX cn cs L a ccd cl)) R s := by
  have hL : L ≠ it := fun e => (N _ (.head _)).2.1 e.symm
  refine codeAny_forLoop
    (LAt s g L it l items.size J) ?_ (items.size + 1) ⟨s.heap, s.toks, m, news, 0, oi, rfl, F, N, hc, hd, h0, Nat.zero_le _, rfl⟩
  rintro k s' ⟨h', tk, m', news', i, o', rfl, F', N', hc', hd', hJ, hi, rfl⟩
  have hlist := hl _ _ _ hJ h' F' fun p hp => N' p (.tail _ hp)
  have hit : Heap.IsListIter h' it l i := ⟨o', N'.get (.head _), hc', hd'⟩
  cases hv : items[i]? with
  | some v =>
    refine wpAny_pyNext_list_item hit hlist hv fun h₁ hit₁ hs₁ => ?_
    refine hideP fun G9 hG9 => ?_
    obtain ⟨o1, g1, c1, d1⟩ := hit₁
    refine hG9 ?_
    clear hG9
    have F1 : Fr g L h₁ m' := ⟨F'.ns.sameBut hs₁ hL, fun b ob e => (hs₁.2 b (fun q => by rw [q, (N' _ (.head _)).2.2] at e; cases e)).trans (F'.keep b ob e), F'.above⟩
    have N1 := News.setHead N' (fun p hp => hap _ _ _ hJ p hp) hs₁ g1
    refine wpAny_assign_Name (storeX_L F1 N1 (fun h₂ F2 N2 => ?_) hk hx)
    have hlt : i < items.size := (Array.getElem?_eq_some_iff.mp hv).1
    refine wpAny_mono (step i v m' news' h₂ _ o1 _ _ (fun _ _ x => x) (fun _ _ x => x) hv hJ F2 N2) (fun f s₃ h₃ => ?_) fun _ _ e => e
    cases f with
    | brk => exact h₃
    | ret v => exact h₃
    | next =>
      refine hideP fun G9 hG9 => ?_
      obtain ⟨h3, tk3, m3, n3, rfl, F3, N3, J3⟩ := h₃
      refine hG9 ?_
      clear hG9
      exact ⟨items.size + 1 - (i + 1), subL (Nat.lt_succ_of_lt hlt), h3, tk3, m3, n3, i + 1, o1, rfl, F3, N3, c1, d1, J3, hlt, rfl⟩
    | cont =>
      refine hideP fun G9 hG9 => ?_
      obtain ⟨h3, tk3, m3, n3, rfl, F3, N3, J3⟩ := h₃
      refine hG9 ?_
      clear hG9
      exact ⟨items.size + 1 - (i + 1), subL (Nat.lt_succ_of_lt hlt), h3, tk3, m3, n3, i + 1, o1, rfl, F3, N3, c1, d1, J3, hlt, rfl⟩
  | none =>
    have hin : i = items.size := by
      have : items.size ≤ i := by simpa using hv
      (first | lia | omega)
    subst hin
    refine wpAny_pyNext_list_end hh hit hlist hv fun h₁ he₁ => wpAny_execs_nil ?_
    refine hR h₁ tk m' news' hJ ⟨F'.ns.extBut he₁ hL, fun b o e => he₁ b o (fun q => by rw [q, (N' _ (.head _)).2.2] at e; cases e) (F'.keep b o e), F'.above⟩ fun p hp => ⟨he₁ _ _ (hap _ _ _ hJ p hp) (N' p (.tail _ hp)).1, (N' p (.tail _ hp)).2⟩
theorem iterRange {r : Addr} {a b c : Int} {t u v : Tok} {Q : Value → Shared → Prop} (F : Fr g L s.heap m) (N : News g L s.heap news) (hr : IsRange s.heap r a b c t u v) (hsmall : Builtin.Range.small a b c = true)
    (h : ∀ it h', Fr g L h' m → News g L h' ((it, riObj a (Builtin.Range.rangeSize a b c) c) :: news) → (∀ p ∈ news, p.1 < it) → Q (.ref it) { s with heap := h' }) : wpAny (model prog w) A (pyIter (.ref r)) Q E s := by
  refine wpAny_pyIter_range hr hsmall ?_
  obtain ⟨F3, N3, l3⟩ := ks_newsPush (s := s) (o := riObj a (Builtin.Range.rangeSize a b c) c) F N rfl (Heap.get?_push_at rfl rfl) (fun b o e => Heap.get?_push_of_some _ e)
  exact h _ _ F3 N3 l3
theorem iterList {l : Addr} {items : Array Value} {Q : Value → Shared → Prop} (F : Fr g L s.heap m) (N : News g L s.heap news) (hl : s.heap.IsList l items)
    (h : ∀ it h' oi, Fr g L h' m → News g L h' ((it, oi) :: news) → oi.cls = .type "list_iterator" → oi.data = .fields #[.ref l, .int (0 : Nat) 0] → (∀ p ∈ news, p.1 < it) → Q (.ref it) { s with heap := h' }) : wpAny (model prog w) A (pyIter (.ref l)) Q E s := by
  refine wpAny_pyIter_list hl ?_
  obtain ⟨F3, N3, l3⟩ := ks_newsPush (s := s) (o := { cls := .type "list_iterator", data := .fields #[.ref l, .int 0 0] }) F N rfl (Heap.get?_push_at rfl rfl) (fun b o e => Heap.get?_push_of_some _ e)
  exact h _ _ _ F3 N3 rfl rfl l3
theorem range1_iter {n : Int} {t : Tok} {Q : Value → Shared → Prop} (F : Fr g L s.heap m) (N : News g L s.heap news) (h0 : 0 ≤ n) (h1 : n ≤ 1000000)
    (h : ∀ it h' tk, Fr g L h' m → News g L h' ((it, riObj 0 n 1) :: news) → (∀ p ∈ news, p.1 < it) → Q (.ref it) { s with heap := h', toks := tk }) :
    wpAny (model prog w) A (call (.type "range") [.int n t]) (fun x s₁ => wpAny (model prog w) A (pyIter x) Q E s₁) E s := by
  refine range1_rows F N fun h' tk t₁ u₁ v₁ hr F' N' k => ?_
  have e : Builtin.Range.rangeSize 0 n 1 = n := by
    unfold Builtin.Range.rangeSize
    simp
    (first | lia | omega)
  exact iterRange F' N' hr (small_one (by decide) (by decide) (by (first | lia | omega)) (by (first | lia | omega))) fun it h2 F2 N2 l2 => h it h2 tk F2 (by rw [e] at N2; exact N2) l2
theorem range2_iter {a b : Int} {t u : Tok} {Q : Value → Shared → Prop} (F : Fr g L s.heap m) (N : News g L s.heap news) (ha : 0 ≤ a) (hb : a ≤ b) (h1 : b ≤ 1000000)
    (h : ∀ it h' tk, Fr g L h' m → News g L h' ((it, riObj a (b - a) 1) :: news) → (∀ p ∈ news, p.1 < it) → Q (.ref it) { s with heap := h', toks := tk }) :
    wpAny (model prog w) A (call (.type "range") [.int a t, .int b u]) (fun x s₁ => wpAny (model prog w) A (pyIter x) Q E s₁) E s := by
  refine range2_rows F N fun h' tk t₁ u₁ v₁ hr F' N' k => ?_
  have e : Builtin.Range.rangeSize a b 1 = b - a := by
    unfold Builtin.Range.rangeSize
    simp
    (first | lia | omega)
  exact iterRange F' N' hr (small_one (by (first | lia | omega)) (by (first | lia | omega)) (by (first | lia | omega)) (by (first | lia | omega))) fun it h2 F2 N2 l2 => h it h2 tk F2 (by rw [e] at N2; exact N2) l2
theorem lk_eq {x : Str} {v : Value} {m : Str → Option Value} : (fun y : Str => if y = x then some v else m y) x = some v := if_pos rfl
theorem lk_ne {x y : Str} {v u : Value} {m : Str → Option Value} (h : y ≠ x) (e : m y = some u) : (fun y : Str => if y = x then some v else m y) y = some u := (if_neg h).trans e
theorem loadL {v : Value} {Q : Value → Shared → Prop} {M : Model} (F : Fr g L s.heap m) (hv : m x = some v) (h : Q v s)
    (hk : cs.kind = .function := by rfl) (hx : (envX cn cs L a ccd cl).kindOf x = some .local := by rfl) : wpAny M A (loadName (envX cn cs L a ccd cl) x) Q E s := wpAny_loadName_local hk hx F.ns hv h
end
end
section
set_option maxRecDepth 100000
open LCg
section
variable {prog : Program} {w : World} {A : Around} {E : Value → Shared → Prop} {s : Shared} {h₀ : Heap} {L : Addr} {m : Str → Option Value} {env : Env}
theorem str_st {I : Addr} {x : Str} {t : Tok} {ty : String} : ∀ i (h h' : Heap) (o : Obj) (nw : List (Addr × Obj)), h.IsStrIter I ty x t i → h.get? I = some o → h'.get? I = some o → (∀ b o, h₀.get? b = some o → h'.get? b = some o) → News h₀ L h' nw → True → h'.IsStrIter I ty x t i :=
  fun i h h' o nw st e e' _ _ _ => by
    obtain ⟨o1, q, r⟩ := st
    rw [e] at q; cases q
    exact ⟨o, e', r⟩
theorem ListComp_S {elt iter : Expr} {x : Str} {px : Pos} {scope : Scope} {cl : List (Str × Addr)} {pos : Pos} {Q : Value → Shared → Prop} {y : Str} (_F : Fr h₀ L s.heap m) (ha : y.cps.all (· < 128) = true)
    (hclos : closureFor scope env = pure cl) (hcell : ∀ y ∈ scope.names, y.2 ≠ .cell) (hkind : scope.kind = .function)
    (hnames : ∀ y ∈ scope.names, y.2 = .local → scope.names.lookup y.1 = some .local) (hx : scope.names.lookup x = some .local)
    (h : wpAny (model prog w) A (eval iter env) (fun xv s₁ => ∃ t news, xv = .str y t ∧ A.handled = none ∧ Fr h₀ L s₁.heap m ∧ News h₀ L s₁.heap news ∧ y.cps.size ≤ sizeLine ∧
      ∀ s₂ : Shared, (∃ h, s₂ = { s₁ with heap := h }) → CompRest prog w A h₀ L m env elt x scope cl s₂ (fun _ => True) (SignAt y) (FinE h₀ L m s₂ Q) y.cps.size 0 [] news) E s)
    (hs : ∀ x, foldedSetIterable iter env x = pure x := by intro _; rfl) :
    wpAny (model prog w) A (eval (.ListComp elt [⟨.Name x px, iter, [], 0⟩] scope pos) env) Q E s := by
  rw [eval_ListComp]
  refine wpAny_comprehension_free (use := none) rfl hs hclos hkind hnames (wpAny_mono h (fun xv s₁ h₁ => ?_) fun _ _ e => e)
  obtain ⟨t, news, rfl, hh, F, N, hsz, R⟩ := h₁
  refine wpAny_pyIter_ascii ha ?_
  refine block_U (Walks.strAscii hh s₁.heap.objs.size y t) hsz (fun i h st => by obtain ⟨o, e, _⟩ := st; exact ⟨o, e⟩) str_st hcell hkind hx ⟨_, Heap.get?_push_size _ rfl, rfl, rfl⟩ (fun b hb => ?_)
      (F.keeps fun _ _ e => Heap.get?_push_of_some _ e) (N.grown fun _ _ e => Heap.get?_push_of_some _ e) (Nat.ne_of_lt F.ns.lt) (next_is_new F) (fun p hp => Nat.ne_of_lt (Heap.lt_size (N p hp).1)) trivial (R _ ⟨_, rfl⟩) ?_
  · rw [List.mem_singleton.mp hb]
    show s₁.heap.objs.size < (s₁.heap.push _).objs.size
    rw [Heap.size_push]; exact Nat.lt_succ_self _
  · intro D C h tk m' ys news' F' N' o1 hn hC₀ hD₀ hCL hDL hCD offC fin
    refine ⟨m', hn, fun h'' hs'' => fin D h'' tk (F'.change hs'' hCL hC₀) (fun p hp => ?_) o1⟩
    refine ⟨hs''.extBut _ _ ?_ (N' p hp).1, (N' p hp).2⟩
    rcases List.mem_cons.mp hp with rfl | hp
    · exact Ne.symm hCD
    · exact offC p hp
inductive CEnd (h₀ : Heap) (L : Addr) (m : Str → Option Value) (s₁ : Shared) (I : Addr) (oI : Obj) (C : Addr) (oC : Obj) (D : Addr) (oD : Obj) (S : List (Addr × Obj) → Prop) (J : List (Addr × Obj) → Prop) (s₂ : Shared) : Prop
  | mk (h' : Heap) (tk : Nat) (news' : List (Addr × Obj)) (e : s₂ = { s₁ with heap := h', toks := tk }) (F : Fr h₀ L h' m) (N : News h₀ L h' ((I, oI) :: (C, oC) :: (D, oD) :: news')) (off : Off3 I C D news') (hS : S news') (j : J news')
theorem CompRest.turns {elt : Expr} {x : Str} {scope : Scope} {cl : List (Str × Addr)} {S : List (Addr × Obj) → Prop} {P : Nat → Value → Prop} {Fin : List Value → List (Addr × Obj) → Prop} {n : Nat} (J : Nat → List Value → List (Addr × Obj) → Prop)
    (step : ∀ i ys news v I oI C oC D m₂ h tk (E' : Value → Shared → Prop) (Qt : Value → Shared → Prop), (∀ y s₂, CEnd h₀ L m { s with heap := h, toks := tk } I oI C oC D (lst ys) S (J (i + 1) (ys ++ [y])) s₂ → Qt y s₂) → i < n → J i ys news → P i v → NsObj oC m₂ → m₂ x = some v → Fr h₀ L h m → News h₀ L h ((I, oI) :: (C, oC) :: (D, lst ys) :: news) → Off3 I C D news → ((@Ne Nat I C) ∧ (@Ne Nat I D) ∧ (@Ne Nat C D)) →
      wpAny (model prog w) A (eval elt (compEnvC scope cl C env)) Qt E' { s with heap := h, toks := tk })
    (fin : ∀ ys news, J n ys news → Fin ys news) : ∀ (k i : Nat) (ys : List Value) (news : List (Addr × Obj)), i + k = n → J i ys news → CompRest prog w A h₀ L m env elt x scope cl s S P Fin k i ys news
  | 0, i, ys, news, e, j => by
    have : i = n := by (first | lia | omega)
    subst this
    exact fin _ _ j
  | k + 1, i, ys, news, e, j => by
    refine CompRest.succ fun v I oI C oC D m₂ h tk E' hP hC hx F N off ne => ?_
    refine wpAny_mono (step i ys news v I oI C oC D m₂ h tk E' _ (fun _ _ x => x) (by (first | lia | omega)) j hP hC hx F N off ne) (fun y s' z => ?_) fun _ _ e => e
    obtain ⟨h', tk', news', e1, F', N', off', hS, r⟩ := z
    exact ⟨h', tk', news', e1, F', N', off', hS, CompRest.turns J step fin k (i + 1) _ _ (by (first | lia | omega)) r⟩
end
end
section
set_option maxRecDepth 100000
section
variable {prog : Program} {w : World} {g : Heap} {A : Around} {R : Result → Shared → Prop} {s : Shared} {E : Value → Shared → Prop} {L a : Addr} {m : Str → Option Value} {news : List (Addr × Obj)} {cn : Str} {cs : Scope} {ccd : Value} {cl : List (Str × Addr)} {x : Str} {px : Pos} {body : List Stmt}
inductive JC (cc : Addr) (J : (Str → Option Value) → List (Addr × Obj) → Prop) (m : Str → Option Value) (news : List (Addr × Obj)) : Prop
  | mk (oc : Obj) (v : Option Value) (rest : List (Addr × Obj)) (e : news = (cc, oc) :: rest) (hd : oc.data = .cell v) (j : J m rest)
inductive RAtC (s : Shared) (g : Heap) (L it cc : Addr) (x0 c : Int) (n : Nat) (J : Nat → (Str → Option Value) → List (Addr × Obj) → Prop) (k : Nat) (s' : Shared) : Prop
  | mk (h' : Heap) (tk : Nat) (m' : Str → Option Value) (oc : Obj) (v : Option Value) (news' : List (Addr × Obj)) (i : Nat) (e : s' = { s with heap := h', toks := tk }) (F : Fr g L h' m') (N : News g L h' ((it, riObj (x0 + (i : Nat) * c) ((n : Int) - (i : Nat)) c) :: (cc, oc) :: news')) (hd : oc.data = .cell v) (j : J i m' news') (hi : i ≤ n) (ek : k = n + 1 - i)
inductive LAtC (s : Shared) (g : Heap) (L it l cc : Addr) (n : Nat) (J : Nat → (Str → Option Value) → List (Addr × Obj) → Prop) (k : Nat) (s' : Shared) : Prop
  | mk (h' : Heap) (tk : Nat) (m' : Str → Option Value) (oc : Obj) (v : Option Value) (news' : List (Addr × Obj)) (i : Nat) (o' : Obj) (e : s' = { s with heap := h', toks := tk }) (F : Fr g L h' m') (N : News g L h' ((it, o') :: (cc, oc) :: news')) (hv : oc.data = .cell v) (hc : o'.cls = .type "list_iterator") (hd : o'.data = .fields #[.ref l, .int (i : Nat) 0]) (j : J i m' news') (hi : i ≤ n) (ek : k = n + 1 - i)
theorem loopRangeC (hh : A.handled = none) {it cc : Addr} {x0 c : Int} {n : Nat} {oc : Obj} {v₀ : Option Value} (J : Nat → (Str → Option Value) → List (Addr × Obj) → Prop)
    (F : Fr g L s.heap m) (N : News g L s.heap ((it, riObj x0 n c) :: (cc, oc) :: news)) (hoc : oc.data = .cell v₀) (h0 : J 0 m news) (hne : it ≠ cc) (hap : ∀ i m news, J i m news → ∀ p ∈ news, p.1 ≠ it ∧ p.1 ≠ cc)
    (step : ∀ i t m' oc news' h' tk (Qt : Flow → Shared → Prop) (Et : Value → Shared → Prop), (∀ f s₂, TurnTo s g L (JC cc (J (i + 1))) it (riObj (x0 + (i + 1 : Nat) * c) (n - (i + 1 : Nat)) c) R f s₂ → Qt f s₂) → (∀ e s₂, notedBy (model prog w) A (envX cn cs L a ccd cl) (fun e s' => R (.error e) s') e s₂ → Et e s₂) → i < n → J i m' news' → oc.data = .cell (some (.int (x0 + i * c) t)) → Fr g L h' m' → News g L h' ((it, riObj (x0 + (i + 1 : Nat) * c) (n - (i + 1 : Nat)) c) :: (cc, oc) :: news') →
      wpAny (model prog w) A (execs body (envX cn cs L a ccd cl)) Qt Et { s with heap := h', toks := tk })
    (hR : ∀ h' tk m' oc v news', J n m' news' → oc.data = .cell v → Fr g L h' m' → News g L h' ((cc, oc) :: news') → R (.ok .next) { s with heap := h', toks := tk })
    (hc : cl.lookup x = some cc)
    (hk : cs.kind = .function := by rfl) (hx : (envX cn cs L a ccd cl).kindOf x = some .cell := by rfl) :
    codeAny (model prog w) A (.forLoop (.Name x px) (.ref it) body [] (envX cn cs L a ccd cl)) R s := by
  have hL : L ≠ it := fun e => (N _ (.head _)).2.1 e.symm
  refine codeAny_forLoop
    (RAtC s g L it cc x0 c n J) ?_ (n + 1) ⟨s.heap, s.toks, m, oc, v₀, news, 0, rfl, F, by simpa using N, hoc, h0, Nat.zero_le _, rfl⟩
  rintro k s' ⟨h', tk, m', oc', v', news', i, rfl, F', N', hoc', hJ, hi, rfl⟩
  have hap1 : ∀ p ∈ (cc, oc') :: news', p.1 ≠ it := fun p hp => by
    rcases List.mem_cons.mp hp with rfl | hp
    · exact hne.symm
    · exact (hap _ _ _ hJ p hp).1
  by_cases hlt : i < n
  · refine wpAny_pyNext_range_item (N'.get (.head _)) (by (first | lia | omega)) fun h₁ hit₁ hs₁ => ?_
    have F1 : Fr g L h₁ m' := ⟨F'.ns.sameBut hs₁ hL, fun b ob e => (hs₁.2 b (fun q => by rw [q, (N' _ (.head _)).2.2] at e; cases e)).trans (F'.keep b ob e), F'.above⟩
    have N1 := News.setHead N' hap1 hs₁ hit₁
    refine wpAny_assign_Name (storeX_C F1 N1 hc (.tail hne (.head fun p hp => (hap _ _ _ hJ p hp).2)) hoc' (fun h₂ o₂ F2 N2 d2 => ?_) hk hx)
    have e1 : x0 + ((i + 1 : Nat) : Int) * c = x0 + (i : Int) * c + c := by push_cast; rw [Int.add_mul, Int.one_mul, Int.add_assoc]
    have e2 : (n : Int) - ((i + 1 : Nat) : Int) = (n : Int) - (i : Int) - 1 := by push_cast; (first | lia | omega)
    refine wpAny_mono (step i _ m' o₂ news' h₂ _ _ _ (fun _ _ x => x) (fun _ _ x => x) hlt hJ d2 F2 (by rw [e1, e2]; exact N2)) (fun f s₃ h₃ => ?_) fun _ _ e => e
    cases f with
    | brk => exact h₃
    | ret v => exact h₃
    | next =>
      refine hideP fun G9 hG9 => ?_
      obtain ⟨h3, tk3, m3, n3, rfl, F3, N3, oc3, v3, r3, rfl, hd3, J3⟩ := h₃
      refine hG9 ?_
      clear hG9
      exact ⟨n + 1 - (i + 1), subL (Nat.lt_succ_of_lt hlt), h3, tk3, m3, oc3, v3, r3, i + 1, rfl, F3, N3, hd3, J3, hlt, rfl⟩
    | cont =>
      refine hideP fun G9 hG9 => ?_
      obtain ⟨h3, tk3, m3, n3, rfl, F3, N3, oc3, v3, r3, rfl, hd3, J3⟩ := h₃
      refine hG9 ?_
      clear hG9
      exact ⟨n + 1 - (i + 1), subL (Nat.lt_succ_of_lt hlt), h3, tk3, m3, oc3, v3, r3, i + 1, rfl, F3, N3, hd3, J3, hlt, rfl⟩
  · have hin : i = n := by (first | lia | omega)
    subst hin
    refine wpAny_pyNext_range_end hh (N'.get (.head _)) (by (first | lia | omega)) fun h₁ he₁ => wpAny_execs_nil ?_
    exact hR h₁ tk m' oc' v' news' hJ hoc' ⟨F'.ns.extBut he₁ hL, fun b o e => he₁ b o (fun q => by rw [q, (N' _ (.head _)).2.2] at e; cases e) (F'.keep b o e), F'.above⟩ fun p hp => ⟨he₁ _ _ (hap1 p hp) (N' p (.tail _ hp)).1, (N' p (.tail _ hp)).2⟩
theorem loopListC (hh : A.handled = none) {it l cc : Addr} {items : Array Value} {oi oc : Obj} {v₀ : Option Value} (J : Nat → (Str → Option Value) → List (Addr × Obj) → Prop)
    (hl : ∀ i m news, J i m news → ∀ h, Fr g L h m → News g L h news → h.IsList l items)
    (F : Fr g L s.heap m) (N : News g L s.heap ((it, oi) :: (cc, oc) :: news)) (hoc : oc.data = .cell v₀) (hic : oi.cls = .type "list_iterator") (hd : oi.data = .fields #[.ref l, .int (0 : Nat) 0]) (h0 : J 0 m news) (hne : it ≠ cc) (hap : ∀ i m news, J i m news → ∀ p ∈ news, p.1 ≠ it ∧ p.1 ≠ cc)
    (step : ∀ i v m' oc news' h' tk o' (Qt : Flow → Shared → Prop) (Et : Value → Shared → Prop), (∀ f s₂, TurnTo s g L (JC cc (J (i + 1))) it o' R f s₂ → Qt f s₂) → (∀ e s₂, notedBy (model prog w) A (envX cn cs L a ccd cl) (fun e s' => R (.error e) s') e s₂ → Et e s₂) → items[i]? = some v → J i m' news' → oc.data = .cell (some v) → Fr g L h' m' → News g L h' ((it, o') :: (cc, oc) :: news') →
      wpAny (model prog w) A (execs body (envX cn cs L a ccd cl)) Qt Et { s with heap := h', toks := tk })
    (hR : ∀ h' tk m' oc v news', J items.size m' news' → oc.data = .cell v → Fr g L h' m' → News g L h' ((cc, oc) :: news') → R (.ok .next) { s with heap := h', toks := tk })
    (hc : cl.lookup x = some cc)
    (hk : cs.kind = .function := by rfl) (hx : (envX cn cs L a ccd cl).kindOf x = some .cell := by rfl) :
    codeAny (model prog w) A (.forLoop (.Name x px) (.ref it) body [] (envX cn cs L a ccd cl)) R s := by
  have hL : L ≠ it := fun e => (N _ (.head _)).2.1 e.symm
  refine codeAny_forLoop
    (LAtC s g L it l cc items.size J) ?_ (items.size + 1) ⟨s.heap, s.toks, m, oc, v₀, news, 0, oi, rfl, F, N, hoc, hic, hd, h0, Nat.zero_le _, rfl⟩
  rintro k s' ⟨h', tk, m', oc', v', news', i, o', rfl, F', N', hoc', hc', hd', hJ, hi, rfl⟩
  have hap1 : ∀ p ∈ (cc, oc') :: news', p.1 ≠ it := fun p hp => by
    rcases List.mem_cons.mp hp with rfl | hp
    · exact hne.symm
    · exact (hap _ _ _ hJ p hp).1
  have hlist := hl _ _ _ hJ h' F' fun p hp => N' p (.tail _ (.tail _ hp))
  have hit : Heap.IsListIter h' it l i := ⟨o', N'.get (.head _), hc', hd'⟩
  cases hv : items[i]? with
  | some v =>
    refine wpAny_pyNext_list_item hit hlist hv fun h₁ hit₁ hs₁ => ?_
    refine hideP fun G9 hG9 => ?_
    obtain ⟨o1, g1, c1, d1⟩ := hit₁
    refine hG9 ?_
    clear hG9
    have F1 : Fr g L h₁ m' := ⟨F'.ns.sameBut hs₁ hL, fun b ob e => (hs₁.2 b (fun q => by rw [q, (N' _ (.head _)).2.2] at e; cases e)).trans (F'.keep b ob e), F'.above⟩
    have N1 := News.setHead N' hap1 hs₁ g1
    refine wpAny_assign_Name (storeX_C F1 N1 hc (.tail hne (.head fun p hp => (hap _ _ _ hJ p hp).2)) hoc' (fun h₂ o₂ F2 N2 d2 => ?_) hk hx)
    have hlt : i < items.size := (Array.getElem?_eq_some_iff.mp hv).1
    refine wpAny_mono (step i v m' o₂ news' h₂ _ o1 _ _ (fun _ _ x => x) (fun _ _ x => x) hv hJ d2 F2 N2) (fun f s₃ h₃ => ?_) fun _ _ e => e
    cases f with
    | brk => exact h₃
    | ret v => exact h₃
    | next =>
      refine hideP fun G9 hG9 => ?_
      obtain ⟨h3, tk3, m3, n3, rfl, F3, N3, oc3, v3, r3, rfl, hd3, J3⟩ := h₃
      refine hG9 ?_
      clear hG9
      exact ⟨items.size + 1 - (i + 1), subL (Nat.lt_succ_of_lt hlt), h3, tk3, m3, oc3, v3, r3, i + 1, o1, rfl, F3, N3, hd3, c1, d1, J3, hlt, rfl⟩
    | cont =>
      refine hideP fun G9 hG9 => ?_
      obtain ⟨h3, tk3, m3, n3, rfl, F3, N3, oc3, v3, r3, rfl, hd3, J3⟩ := h₃
      refine hG9 ?_
      clear hG9
      exact ⟨items.size + 1 - (i + 1), subL (Nat.lt_succ_of_lt hlt), h3, tk3, m3, oc3, v3, r3, i + 1, o1, rfl, F3, N3, hd3, c1, d1, J3, hlt, rfl⟩
  | none =>
    have hin : i = items.size := by
      have : items.size ≤ i := by simpa using hv
      (first | lia | omega)
    subst hin
    refine wpAny_pyNext_list_end hh hit hlist hv fun h₁ he₁ => wpAny_execs_nil ?_
    exact hR h₁ tk m' oc' v' news' hJ hoc' ⟨F'.ns.extBut he₁ hL, fun b o e => he₁ b o (fun q => by rw [q, (N' _ (.head _)).2.2] at e; cases e) (F'.keep b o e), F'.above⟩ fun p hp => ⟨he₁ _ _ (hap1 p hp) (N' p (.tail _ hp)).1, (N' p (.tail _ hp)).2⟩
end
open LCg in
theorem CompRestT.turns {prog : Program} {w : World} {A : Around} {s : Shared} {h₀ : Heap} {L : Addr} {m : Str → Option Value} {env : Env} {ct elt : Expr} {x : Str} {scope : Scope} {cl : List (Str × Addr)} {S : List (Addr × Obj) → Prop} {P : Nat → Value → Prop} {Fin : List Value → List (Addr × Obj) → Prop} {n : Nat} (J : Nat → List Value → List (Addr × Obj) → Prop)
    (step : ∀ i ys news v I oI C oC D m₂ h tk (E' : Value → Shared → Prop) (Qt : Value → Shared → Prop) (Q0 : Shared → Prop), (∀ y s₂, CEnd h₀ L m { s with heap := h, toks := tk } I oI C oC D (lst ys) S (J (i + 1) (ys ++ [y])) s₂ → Qt y s₂) → (∀ s₂, CEnd h₀ L m { s with heap := h, toks := tk } I oI C oC D (lst ys) S (J (i + 1) ys) s₂ → Q0 s₂) → i < n → J i ys news → P i v → NsObj oC m₂ → m₂ x = some v → Fr h₀ L h m → News h₀ L h ((I, oI) :: (C, oC) :: (D, lst ys) :: news) → Off3 I C D news → ((@Ne Nat I C) ∧ (@Ne Nat I D) ∧ (@Ne Nat C D)) →
      wpAny (model prog w) A (isTrue ct (compEnvC scope cl C env) (eval ct (compEnvC scope cl C env))) (fun ok s' => if ok = true then
        wpAny (model prog w) A (eval elt (compEnvC scope cl C env)) Qt E' s' else Q0 s') E' { s with heap := h, toks := tk })
    (fin : ∀ ys news, J n ys news → Fin ys news) : ∀ (k i : Nat) (ys : List Value) (news : List (Addr × Obj)), i + k = n → J i ys news → LCt.CompRestT prog w A h₀ L m env ct elt x scope cl s S P Fin k i ys news
  | 0, i, ys, news, e, j => by
    have : i = n := by (first | lia | omega)
    subst this
    exact fin _ _ j
  | k + 1, i, ys, news, e, j => by
    refine LCt.CompRestT.succ fun v I oI C oC D m₂ h tk E' hP hC hx F N off ne => ?_
    refine wpAny_mono (step i ys news v I oI C oC D m₂ h tk E' _ _ (fun _ _ x => x) (fun _ x => x) (by (first | lia | omega)) j hP hC hx F N off ne) (fun ok s' z => ?_) fun _ _ e => e
    by_cases hok : ok = true
    · rw [if_pos hok] at z ⊢
      refine wpAny_mono z (fun y s' z => ?_) fun _ _ e => e
      refine hideP fun G9 hG9 => ?_
      obtain ⟨h', tk', news', e1, F', N', off', hS, r⟩ := z
      refine hG9 ?_
      clear hG9
      exact ⟨h', tk', news', e1, F', N', off', hS, CompRestT.turns J step fin k (i + 1) _ _ (by (first | lia | omega)) r⟩
    · rw [if_neg hok] at z ⊢
      refine hideP fun G9 hG9 => ?_
      obtain ⟨h', tk', news', e1, F', N', off', hS, r⟩ := z
      refine hG9 ?_
      clear hG9
      exact ⟨h', tk', news', e1, F', N', off', hS, CompRestT.turns J step fin k (i + 1) _ _ (by (first | lia | omega)) r⟩
end
section
open Sem (wp)
set_option maxRecDepth 100000
section
variable {M : Model} {A : Around} {R : GenEnd} {Y : Protocol} {n : Nat} {s₀ : Shared} {c : Code} {fs : List Frame} {s : Shared} {env : Env}
  {K : Flow → Sem Fin} {H : Value → Sem Fin} {gd : Bool → Bool} {lv : List Value → List Value}
noncomputable def noteH (env : Env) (e : Value) : Sem Fin := (do noteFrame e env; theTreesLotGoes e : Sem Unit).wrap (fun _ => .raise e) .raise id id
noncomputable def backK (env : Env) (K : Flow → Sem Fin) (H : Value → Sem Fin) (gd : Bool → Bool) (lv : List Value → List Value) (r : Result) : Sem Fin :=
  ((match r with | .ok f => (.pure f : Sem Flow) | .error e => .raise e).onRaise fun (x : Value) => do
        if (← field x 1) == Value.none then unsupported "frame.own-activation:exception-without-traceback"
        setFlight x env.frame).wrap K H gd lv
theorem seg_If {test : Expr} {body orelse : List Stmt} {pos : Pos}
    (h : wpAny M (A.over c fs) (isTrue test env (eval test env)) (fun b s' => if b = true then Seg M A R Y n s₀ c ((execs body env).wrap K H gd lv) fs s' else Seg M A R Y n s₀ c ((execs orelse env).wrap K H gd lv) fs s')
      (fun x s' => Seg M A R Y n s₀ c (H x) fs s') s) :
    Seg M A R Y n s₀ c ((exec (.If test body orelse pos) env).wrap K H gd lv) fs s := by
  rw [exec_If]
  show Seg M A R Y n s₀ c (.at pos fun _ => ((isTrue test env (eval test env)) >>= fun b => if b = true then execs body env else execs orelse env).wrap K H gd lv) fs s
  refine seg_at ?_
  rw [Sem.bind_eq_wrap', Sem.wrap_wrap]
  refine seg_wrap (wpAny_mono h (fun b s' hb => ?_) fun _ _ x => x)
  cases b with
  | true => rw [if_pos rfl] at hb; exact hb
  | false => rw [if_neg Bool.false_ne_true] at hb; exact hb
theorem seg_For {target iter : Expr} {body orelse : List Stmt} {pos : Pos}
    (h : wpAny M (A.over c fs) (eval iter env) (fun x s₁ => wpAny M (A.over c fs) (pyIter x) (fun it s₂ => ∀ p,
      Seg M A R Y n s₀ (.forLoop target it body orelse env) (M.den (.forLoop target it body orelse env)) (.ret (backK env K H gd lv) none (gd false) (lv []) c p [] :: fs) s₂)
      (fun x s' => Seg M A R Y n s₀ c (H x) fs s') s₁) (fun x s' => Seg M A R Y n s₀ c (H x) fs s') s)
    (hs : ∀ x, foldedSetIterable iter env x = pure x := by intro _; rfl) :
    Seg M A R Y n s₀ c ((exec (.For target iter body orelse pos) env).wrap K H gd lv) fs s := by
  rw [exec_For]
  refine seg_at ?_
  rw [show foldedSetIterable iter env = (fun x => pure x) from funext hs]
  show Seg M A R Y n s₀ c (Sem.wrap K H gd lv (eval iter env >>= fun x => standAt iter.pos >>= fun _ => holding [x] (pyIter x) >>= fun it => runOwn (.forLoop target it body orelse env) env)) fs s
  rw [Sem.bind_eq_wrap', Sem.wrap_wrap]
  refine seg_wrap (wpAny_mono h (fun x s₁ h₁ => ?_) fun _ _ x => x)
  refine seg_at ?_
  show Seg M A R Y n s₀ c (Sem.wrap K H gd lv (holding [x] (pyIter x) >>= fun it => runOwn (.forLoop target it body orelse env) env)) fs s₁
  rw [Sem.bind_eq_wrap', Sem.wrap_wrap]
  refine seg_wrap (wpAny_holding (wpAny_mono h₁ (fun it s₂ h₂ => ?_) fun _ _ x => x))
  exact seg_call h₂
theorem seg_exec {st : Stmt} (h : wpAny M (A.over c fs) (exec st env) (fun f s' => Seg M A R Y n s₀ c (K f) fs s') (fun x s' => Seg M A R Y n s₀ c (H x) fs s') s) :
    Seg M A R Y n s₀ c ((exec st env).wrap K H gd lv) fs s := seg_wrap h
end
section
variable {prog : Program} {w : World} {A : Around} {R : GenEnd} {Y : Protocol} {n : Nat} {s₀ : Shared} {fs : List Frame} {s : Shared} {env : Env}
noncomputable def turnK (target : Expr) (it : Value) (body orelse : List Stmt) (env : Env) : Flow → Sem Fin
  | .next | .cont => .pure (.again (.forLoop target it body orelse env))
  | .brk => .pure (.done .next)
  | .ret v => .pure (.done (.ret v))
theorem seg_forLoop {target : Expr} {it : Value} {body orelse : List Stmt}
    (h : wpAny (model prog w) (A.over (.forLoop target it body orelse env) fs) (pyNext it) (fun r s₁ => match r with
      | none => Seg (model prog w) A R Y n s₀ (.forLoop target it body orelse env) (.pure (.again (.block orelse env))) fs s₁
      | some v => wpAny (model prog w) (A.over (.forLoop target it body orelse env) fs) (assign target env v) (fun _ s₂ =>
          Seg (model prog w) A R Y n s₀ (.forLoop target it body orelse env) ((execs body env).wrap (turnK target it body orelse env) (noteH env) id id) fs s₂) (fun _ _ => False) s₁) (fun _ _ => False) s)
    (ht : ∀ v, letOwnedTupleGo target it v = pure () := by intro _; rfl) :
    Seg (model prog w) A R Y n s₀ (.forLoop target it body orelse env) ((model prog w).den (.forLoop target it body orelse env)) fs s := by
  show Seg _ A R Y n s₀ _ ((forTurn target it body orelse env).onRaise (fun x => do noteFrame x env; theTreesLotGoes x)) fs s
  unfold forTurn
  rw [Sem.onRaise_eq_wrap, Sem.bind_eq_wrap', Sem.wrap_wrap]
  refine seg_at ?_
  show Seg _ A R Y n s₀ _ (Sem.wrap _ _ _ _ (((pyNext it).onRaise fun _ => standAt { target.pos with line := 0 }) >>= _)) fs s
  rw [Sem.bind_eq_wrap', Sem.wrap_wrap]
  refine seg_wrap (wpAny_onRaise (wpAny_mono h (fun r s₁ h₁ => ?_) fun _ _ x => x.elim))
  cases r with
  | none => exact h₁
  | some v =>
    dsimp only at h₁ ⊢
    rw [ht v]
    show Seg _ A R Y n s₀ _ (Sem.wrap _ _ _ _ (assign target env v >>= _)) fs s₁
    rw [Sem.bind_eq_wrap', Sem.wrap_wrap]
    refine seg_wrap (wpAny_mono h₁ (fun _ s₂ h₂ => ?_) fun _ _ x => x.elim)
    rw [Sem.bind_eq_wrap', Sem.wrap_wrap]
    rw [Sem.wrap_congr (execs body env) _ _ (K' := turnK target it body orelse env) (H' := noteH env) (fun f => by cases f <;> rfl)
        (fun e => by first | exact Sem.bind_eq_wrap _ _ | (show (do noteFrame e env; theTreesLotGoes e : Sem Unit).bind (fun _ => .raise e) = _; rw [Sem.bind_eq_wrap]; rfl))]
    exact h₂
theorem seg_block_nil (h : Seg (model prog w) A R Y n s₀ (.block [] env) (.pure (.done .next)) fs s) : Seg (model prog w) A R Y n s₀ (.block [] env) ((model prog w).den (.block [] env)) fs s := by
  first
  | exact h
  | exact seg_point h
end
end
section
set_option maxRecDepth 100000
noncomputable def lexI : List Int → List Int → Bool
  | [], [] => false
  | [], _ :: _ => true
  | _ :: _, [] => false
  | a :: x, b :: y => if a = b then lexI x y else decide (a < b)
theorem lexI_cons (a : Int) (x : List Int) (b : Int) (y : List Int) : lexI (a :: x) (b :: y) = if a = b then lexI x y else decide (a < b) := rfl
theorem lexI_nn : lexI [] [] = false := rfl
theorem lexI_nc (b : Int) (y : List Int) : lexI [] (b :: y) = true := rfl
theorem lexI_cn (a : Int) (x : List Int) : lexI (a :: x) [] = false := rfl
open AutoSeq1 (wpAny_loadPart')
open MeetsSeq
theorem lex_drop {ds es : List Int} {i : Nat} (h1 : i < ds.length) (h2 : i < es.length) : lexI (ds.drop i) (es.drop i) = if ds.getD i 0 = es.getD i 0 then lexI (ds.drop (i + 1)) (es.drop (i + 1)) else decide (ds.getD i 0 < es.getD i 0) := by
  rw [List.drop_eq_getElem_cons h1, List.drop_eq_getElem_cons h2]
  simp only [List.getD_eq_getElem?_getD, List.getElem?_eq_getElem h1, List.getElem?_eq_getElem h2, Option.getD_some]
  rfl
theorem lex_end : ∀ {ds es : List Int}, ds = [] ∨ es = [] → lexI ds es = decide (ds.length < es.length)
  | [], [], _ => rfl
  | [], _ :: _, _ => by simp [lexI_nc]
  | _ :: _, [], _ => by simp [lexI_cn]
  | _ :: _, _ :: _, h => by rcases h with h | h <;> cases h
theorem int_at' {vs : List Value} {ds : List Int} (h : IntsAre vs ds) {i : Nat} (hi : i < ds.length) : ∃ t, vs[i]? = some (.int (ds.getD i 0) t) := by
  have hv : i < vs.length := Nat.lt_of_lt_of_eq hi h.length.symm
  obtain ⟨t, e⟩ := IntsAre.int_at h i vs[i] (List.getElem?_eq_getElem hv)
  exact ⟨t, by rw [List.getElem?_eq_getElem hv, e]⟩
theorem lt_loop (l b : Addr) (vs us : List Value) (ds es : List Int) (hv : IntsAre vs ds) (hu : IntsAre us es) (n n2 : Nat) (k : Nat) :
    ∀ i : Nat, i ≤ ds.length → i ≤ es.length → ds.length - i = k → Meets (Builtin.«list.__eq__.loop» ⟨[.ref l, .ref b, rawInt i, rawInt 0], []⟩)
      (fun _ R s => s.heap.get? l = some { cls := .type "list", dict := none, data := .seq vs.toArray n, slots := #[] } ∧ s.heap.get? b = some { cls := .type "list", dict := none, data := .seq us.toArray n2, slots := #[] } ∧
        R (.ok (.ret (.bool (lexI (ds.drop i) (es.drop i))))) s) := by
  have lv : vs.length = ds.length := hv.length
  have lu : us.length = es.length := hu.length
  induction k with
  | zero =>
    intro i h1 h2 hk prog w A R s h
    obtain ⟨hp, g, d, tk, os⟩ := s; obtain ⟨hl, hb, h⟩ := h
    wp_walk using wpAny_loadPart' hl, wpAny_loadPart' hb
    have hle : ds.length ≤ i := Nat.le_of_sub_eq_zero hk
    have hi1 : vs.toArray[((i : Nat) : Int).toNat]? = none := by simp; rw [lv]; exact hle
    have hd : ds.drop i = [] := List.drop_eq_nil_of_le hle
    rw [lex_end (.inl hd)] at h
    rw [hi1]
    wp_walk using wpAny_loadPart' hl, wpAny_loadPart' hb
    show R (.ok (.ret (.bool (decide (vs.toArray.size < us.toArray.size))))) _
    have e : decide (vs.toArray.size < us.toArray.size) = decide ((ds.drop i).length < (es.drop i).length) := by
      rw [Bool.eq_iff_iff, decide_eq_true_eq, decide_eq_true_eq]; simp; rw [lv, lu]; exact (Nat.sub_lt_sub_iff_right h1).symm
    rw [e]; exact h
  | succ k ih =>
    intro i h1 h2 hk prog w A R s h
    obtain ⟨hp, g, d, tk, os⟩ := s; obtain ⟨hl, hb, h⟩ := h
    wp_walk using wpAny_loadPart' hl, wpAny_loadPart' hb
    have hlt : i < ds.length := Nat.lt_of_sub_pos (by rw [hk]; exact Nat.succ_pos k)
    obtain ⟨t1, hi1⟩ := int_at' hv hlt
    have hi1 : vs.toArray[((i : Nat) : Int).toNat]? = some (.int (ds.getD i 0) t1) := by rw [List.getElem?_toArray]; exact hi1
    by_cases hlt2 : i < es.length
    · obtain ⟨t2, hi2⟩ := int_at' hu hlt2
      have hi2 : us.toArray[((i : Nat) : Int).toNat]? = some (.int (es.getD i 0) t2) := by rw [List.getElem?_toArray]; exact hi2
      have hc : ((i : Int) + 1) = ((i + 1 : Nat) : Int) := by push_cast; rfl
      rw [lex_drop hlt hlt2] at h
      rw [hi1, hi2]
      refine wpAny_bind (wpAny_eqBool_int ?_)
      by_cases hb' : ds.getD i 0 = es.getD i 0
      · rw [if_pos hb'] at h
        rw [hb', beq_self_eq_true]
        wp_walk
        rw [hc]
        exact ⟨plainId_quiet MeetsSeq3.plain_eq_loop _, codeAny_builtin MeetsSeq3.entry_eq_loop (by
          rw [Around.under_plainId MeetsSeq3.plain_eq_loop _]
          exact ih (i + 1) hlt hlt2 (congrArg Nat.pred hk) prog w A R _ ⟨hl, hb, h⟩)⟩
      · rw [if_neg hb'] at h
        rw [beq_false_of_ne hb']
        wp_walk using wpAny_loadPart' hl, wpAny_loadPart' hb
        rw [hi1, hi2]
        refine wpAny_bind ?_
        exact wpAny_lt_int (wpAny_pure h)
    · have hle : es.length ≤ i := Nat.le_of_not_lt hlt2
      have hi2 : us.toArray[((i : Nat) : Int).toNat]? = none := by simp; rw [lu]; exact hle
      have hd : es.drop i = [] := List.drop_eq_nil_of_le hle
      rw [lex_end (.inr hd)] at h
      rw [hi1, hi2]
      wp_walk using wpAny_loadPart' hl, wpAny_loadPart' hb
      show R (.ok (.ret (.bool (decide (vs.toArray.size < us.toArray.size))))) _
      have e : decide (vs.toArray.size < us.toArray.size) = decide ((ds.drop i).length < (es.drop i).length) := by
        rw [Bool.eq_iff_iff, decide_eq_true_eq, decide_eq_true_eq]; simp; rw [lv, lu]; exact (Nat.sub_lt_sub_iff_right h1).symm
      rw [e]; exact h
theorem list_lt (l b : Addr) (vs us : List Value) (ds es : List Int) (hv : IntsAre vs ds) (hu : IntsAre us es) (n n2 : Nat) :
    Meets (Builtin.«list.__lt__» ⟨[.ref l, .ref b], []⟩)
      (fun _ R s => s.heap.get? l = some { cls := .type "list", dict := none, data := .seq vs.toArray n, slots := #[] } ∧ s.heap.get? b = some { cls := .type "list", dict := none, data := .seq us.toArray n2, slots := #[] } ∧
        R (.ok (.ret (.bool (lexI ds es)))) s) := by
  intro prog w A R s h
  obtain ⟨hp, g, d, tk, os⟩ := s; obtain ⟨hl, hb, h⟩ := h
  have f3 := AutoSeq1.sub_list_list
  wp_walk using wpAny_loadPart' hl, wpAny_loadPart' hb
  exact ⟨plainId_quiet MeetsSeq3.plain_eq_loop _, codeAny_builtin MeetsSeq3.entry_eq_loop (by
    rw [Around.under_plainId MeetsSeq3.plain_eq_loop _]
    exact lt_loop l b vs us ds es hv hu n n2 _ 0 (Nat.zero_le _) (Nat.zero_le _) rfl prog w A R _ ⟨hl, hb, h⟩)⟩
section
variable {prog : Program} {w : World} {A : Around} {E : Value → Shared → Prop} {s : Shared}
theorem call_list_lt {l b : Addr} {vs us : List Value} {ds es : List Int} {n n2 : Nat} {Q : Value → Shared → Prop} (hl : s.heap.get? l = some (listOf vs.toArray n)) (hb : s.heap.get? b = some (listOf us.toArray n2)) (hv : IntsAre vs ds) (hu : IntsAre us es)
    (h : Q (.bool (lexI ds es)) s) : wpAny (model prog w) A (call (.builtin "list.__lt__") [.ref l, .ref b]) Q E s :=
  call_meets PySem.F.slot_list_lt ⟨_, hl, rfl⟩ PySem.F.entry_list_lt (PySem.F.args_list_lt_2 _ _) (list_lt l b vs us ds es hv hu n n2) ⟨hl, hb, h⟩
end
end
section
set_option maxRecDepth 100000
noncomputable def CmpIs (cmp : Nat → Nat → (Bool → Shared → Prop) → Shared → Prop) (lt : Nat → Nat → Bool) (n : Nat) (s : Shared) : Prop := ∀ i j C, i < n → j < n → C (lt i j) s → cmp i j C s
structure LtOk (lt : Nat → Nat → Bool) (n : Nat) : Prop where
  irr : ∀ i, i < n → lt i i = false
  trans : ∀ i j k, i < n → j < n → k < n → lt i j = true → lt j k = true → lt i k = true
  total : ∀ i j, i < n → j < n → i ≠ j → lt i j = false → lt j i = true
noncomputable abbrev at_ (p : Array Nat) (i : Nat) : Nat := p.getD i 0
structure PermOk (p : Array Nat) (n : Nat) : Prop where
  size : p.size = n
  lt : ∀ i, i < n → at_ p i < n
  inj : ∀ i j, i < n → j < n → at_ p i = at_ p j → i = j
  perm : p.toList.Perm (List.range n)
noncomputable def AscTo (lt : Nat → Nat → Bool) (p : Array Nat) (k : Nat) : Prop := ∀ i j, i < j → j < k → lt (at_ p i) (at_ p j) = true
noncomputable def DescTo (lt : Nat → Nat → Bool) (p : Array Nat) (k : Nat) : Prop := ∀ i j, i < j → j < k → lt (at_ p j) (at_ p i) = true
theorem at_eq (p : Array Nat) (i : Nat) : at_ p i = (p[i]?).getD 0 := by
  unfold at_; exact Array.getD_eq_getD_getElem?
theorem permOk_of_perm {p q : Array Nat} {n : Nat} (h : PermOk p n) (e : q.Perm p) : PermOk q n := by
  have e' : q.toList.Perm p.toList := e.toList
  have sz : q.size = n := by rw [← h.size, ← Array.length_toList, ← Array.length_toList]; exact e'.length_eq
  have ap : ∀ (r : Array Nat) i, (hi : i < r.size) → at_ r i = r.toList[i]'(by simpa using hi) := fun r i hi => by rw [at_eq]; simp [hi]
  have hnd : p.toList.Nodup := by
    refine List.pairwise_iff_getElem.mpr fun i j hi hj hij e2 => ?_
    simp only [Array.length_toList] at hi hj
    refine Nat.ne_of_lt hij (h.inj _ _ (h.size ▸ hi) (h.size ▸ hj) ?_)
    rw [ap p i hi, ap p j hj]; exact e2
  have qs : ∀ {i : Nat}, i < n → i < q.size := fun hi => Nat.lt_of_lt_of_eq hi sz.symm
  have ql : ∀ {i : Nat}, i < n → i < q.toList.length := fun hi => Nat.lt_of_lt_of_eq (qs hi) Array.length_toList.symm
  refine ⟨sz, fun i hi => ?_, fun i j hi hj e2 => ?_, e'.trans h.perm⟩
  · rw [ap q i (qs hi)]
    have hm : q.toList[i]'(ql hi) ∈ p.toList := e'.mem_iff.mp (List.getElem_mem _)
    obtain ⟨k, hk, e3⟩ := List.getElem_of_mem hm
    simp only [Array.length_toList] at hk
    rw [← e3, ← ap p k hk]
    exact h.lt k (h.size ▸ hk)
  · rw [ap q i (qs hi), ap q j (qs hj)] at e2
    have hq : q.toList.Nodup := e'.nodup_iff.mpr hnd
    have hq2 := List.pairwise_iff_getElem.mp hq
    rcases Nat.lt_trichotomy i j with c | c | c
    · exact absurd e2 (hq2 i j (ql hi) (ql hj) c)
    · exact c
    · exact absurd e2.symm (hq2 j i (ql hj) (ql hi) c)
theorem permOk_range (n : Nat) : PermOk (List.toArray (List.range n)) n := by
  have h : ∀ i, i < n → at_ (List.toArray (List.range n)) i = i := fun i hi => by rw [at_eq]; simp [hi]
  exact ⟨by simp, fun i hi => by rw [h i hi]; exact hi, fun i j hi hj e => by rw [h i hi, h j hj] at e; exact e, by simp⟩
section
variable {cmp : Nat → Nat → (Bool → Shared → Prop) → Shared → Prop} {lt : Nat → Nat → Bool} {N : Nat} {s : Shared} {p : Array Nat}
theorem pre_lt {n : Nat} (h : 1 ≤ n) : n - 1 < n := Nat.sub_lt h Nat.one_pos
theorem AscTo.succ (hl : LtOk lt N) (P : PermOk p N) {n : Nat} (h1 : 1 ≤ n) (hn : n < N) (h : AscTo lt p n) (e : lt (at_ p n) (at_ p (n - 1)) = false) : AscTo lt p (n + 1) := by
  intro i j hij hj
  by_cases ej : j = n
  · subst ej
    have pn := pre_lt h1
    have pN := Nat.lt_trans pn hn
    have e1 : lt (at_ p (j - 1)) (at_ p j) = true := hl.total _ _ (P.lt _ hn) (P.lt _ pN) (fun q => Nat.ne_of_gt pn (P.inj _ _ hn pN q)) e
    by_cases ei : i = j - 1
    · rw [ei]; exact e1
    · exact hl.trans _ _ _ (P.lt _ (Nat.lt_trans hij hn)) (P.lt _ pN) (P.lt _ hn) (h i (j - 1) (Nat.lt_of_le_of_ne (Nat.le_sub_one_of_lt hij) ei) pn) e1
  · exact h i j hij (Nat.lt_of_le_of_ne (Nat.le_of_lt_succ hj) ej)
theorem DescTo.succ (hl : LtOk lt N) (P : PermOk p N) {n : Nat} (h1 : 1 ≤ n) (hn : n < N) (h : DescTo lt p n) (e : lt (at_ p n) (at_ p (n - 1)) = true) : DescTo lt p (n + 1) := by
  intro i j hij hj
  by_cases ej : j = n
  · subst ej
    have pn := pre_lt h1
    by_cases ei : i = j - 1
    · rw [ei]; exact e
    · exact hl.trans _ _ _ (P.lt _ hn) (P.lt _ (Nat.lt_trans pn hn)) (P.lt _ (Nat.lt_trans hij hn)) e (h i (j - 1) (Nat.lt_of_le_of_ne (Nat.le_sub_one_of_lt hij) ei) pn)
  · exact h i j hij (Nat.lt_of_le_of_ne (Nat.le_of_lt_succ hj) ej)
theorem asc_run (hc : CmpIs cmp lt N s) (hl : LtOk lt N) (P : PermOk p N) {Q : Nat → Shared → Prop} : ∀ (f n : Nat), 1 ≤ n → n + f ≤ N → AscTo lt p n →
    (∀ m, n ≤ m → m ≤ n + f → AscTo lt p m → (m < n + f → lt (at_ p m) (at_ p (m - 1)) = true) → Q m s) → (kas_asc p f n).kasWp cmp Q s
  | 0, n, _, _, ha, h => h n (Nat.le_refl _) (Nat.le_refl _) ha fun q => absurd q (Nat.lt_irrefl _)
  | f + 1, n, h1, hn, ha, h => by
    show cmp (at_ p n) (at_ p (n - 1)) (fun c s' => (if c = true then KasT.ret n else kas_asc p f (n + 1)).kasWp cmp Q s') s
    have nN : n < N := Nat.lt_of_lt_of_le (Nat.lt_add_of_pos_right (Nat.succ_pos f)) hn
    have ee : n + 1 + f = n + (f + 1) := Nat.succ_add n f
    refine hc _ _ _ (P.lt _ nN) (P.lt _ (Nat.lt_of_le_of_lt (Nat.sub_le n 1) nN)) ?_
    cases e : lt (at_ p n) (at_ p (n - 1)) with
    | true => rw [if_pos rfl]; exact h n (Nat.le_refl _) (Nat.le_add_right _ _) ha fun _ => e
    | false =>
      rw [if_neg (by simp)]
      exact asc_run hc hl P f (n + 1) (Nat.succ_le_succ (Nat.zero_le n)) (Nat.le_trans (Nat.le_of_eq ee) hn) (ha.succ hl P h1 nN e) fun m a b c d => h m (Nat.le_of_succ_le a) (Nat.le_trans b (Nat.le_of_eq ee)) c fun q => d (Nat.lt_of_lt_of_eq q ee.symm)
theorem desc_run (hc : CmpIs cmp lt N s) (hl : LtOk lt N) (P : PermOk p N) {Q : Array Nat × Nat × Nat → Shared → Prop} : ∀ (f n : Nat), 1 ≤ n → n + f ≤ N → DescTo lt p n →
    (∀ m, n ≤ m → m ≤ n + f → DescTo lt p m → Q (p, m, 0) s) → (kas_desc f p n 0).kasWp cmp Q s
  | 0, n, _, _, ha, h => h n (Nat.le_refl _) (Nat.le_refl _) ha
  | f + 1, n, h1, hn, ha, h => by
    show cmp (at_ p n) (at_ p (n - 1)) (fun c s' => (if c = true then (if 0 > 0 then kas_desc f (kas_rev p (n - (0 + 1)) n) (n + 1) 0 else kas_desc f p (n + 1) 0)
      else .ask (p.getD (n - 1) 0) (p.getD n 0) fun d => if d = true then .ret (p, n, 0) else kas_desc f p (n + 1) (0 + 1)).kasWp cmp Q s') s
    have nN : n < N := Nat.lt_of_lt_of_le (Nat.lt_add_of_pos_right (Nat.succ_pos f)) hn
    have ee : n + 1 + f = n + (f + 1) := Nat.succ_add n f
    have pN := Nat.lt_trans (pre_lt h1) nN
    refine hc _ _ _ (P.lt _ nN) (P.lt _ pN) ?_
    cases e : lt (at_ p n) (at_ p (n - 1)) with
    | true =>
      rw [if_pos rfl, if_neg (Nat.lt_irrefl _)]
      exact desc_run hc hl P f (n + 1) (Nat.succ_le_succ (Nat.zero_le n)) (Nat.le_trans (Nat.le_of_eq ee) hn) (ha.succ hl P h1 nN e) fun m a b c => h m (Nat.le_of_succ_le a) (Nat.le_trans b (Nat.le_of_eq ee)) c
    | false =>
      rw [if_neg (by simp)]
      show cmp (at_ p (n - 1)) (at_ p n) (fun d s' => (if d = true then KasT.ret (p, n, 0) else kas_desc f p (n + 1) (0 + 1)).kasWp cmp Q s') s
      refine hc _ _ _ (P.lt _ pN) (P.lt _ nN) ?_
      rw [hl.total _ _ (P.lt _ nN) (P.lt _ pN) (fun q => Nat.ne_of_gt (pre_lt h1) (P.inj _ _ nN pN q)) e, if_pos rfl]
      exact h n (Nat.le_refl _) (Nat.le_add_right _ _) ha
theorem rev_ok (P : PermOk p N) (n : Nat) : PermOk (kas_rev p 0 n) N := permOk_of_perm P (mirror_perm _ _ _ _)
theorem rev_asc (P : PermOk p N) {n : Nat} (hn : n ≤ N) (h : DescTo lt p n) : AscTo lt (kas_rev p 0 n) n := by
  have e : ∀ i, i < n → at_ (kas_rev p 0 n) i = at_ p (n - 1 - i) := fun i hi => by
    rw [at_eq, at_eq]
    show ((mirror p 0 n ((n - 0) / 2))[i]?).getD 0 = _
    rw [getElem?_mirror_all (by rw [P.size]; exact hn), if_pos ⟨Nat.zero_le _, hi⟩, Nat.zero_add]
  intro i j hij hj
  have hi := Nat.lt_trans hij hj
  rw [e i hi, e j hj]
  exact h (n - 1 - j) (n - 1 - i) (Nat.sub_lt_sub_left (Nat.lt_of_lt_of_le hij (Nat.le_sub_one_of_lt hj)) hij) (Nat.lt_of_le_of_lt (Nat.sub_le _ _) (pre_lt (Nat.lt_of_le_of_lt (Nat.zero_le i) hi)))
theorem count_run (hc : CmpIs cmp lt N s) (hl : LtOk lt N) (P : PermOk p N) (h2 : 2 ≤ N) {Q : Nat × Array Nat → Shared → Prop}
    (h : ∀ n q, 1 ≤ n → n ≤ N → PermOk q N → AscTo lt q n → Q (n, q) s) : (kas_count N p).kasWp cmp Q s := by
  unfold kas_count
  rw [KasT.kasWp_bind]
  have e1N : 1 + (N - 1) = N := Nat.add_sub_of_le (Nat.le_trans (by decide) h2)
  have e2N : 1 + 1 + (N - (1 + 1)) = N := Nat.add_sub_of_le h2
  refine asc_run hc hl P (N - 1) 1 (Nat.le_refl _) (Nat.le_of_eq e1N) (fun i j a b => absurd (Nat.lt_of_lt_of_le a (Nat.le_of_lt_succ b)) (Nat.not_lt_zero i)) fun m h1 hm ha hd => ?_
  have mN : m ≤ N := Nat.le_trans hm (Nat.le_of_eq e1N)
  by_cases em : m = N
  · rw [if_pos (by rw [em]; exact beq_self_eq_true N)]
    exact h m p h1 mN P ha
  · rw [if_neg (by simpa using em)]
    by_cases e1 : m > 1
    · rw [if_pos e1]
      show cmp (at_ p 0) (at_ p (m - 1)) (fun c s' => (if c = true then KasT.ret (m, p) else kas_descPart m N (kas_rev p 0 m)).kasWp cmp Q s') s
      refine hc _ _ _ (P.lt _ (Nat.lt_of_lt_of_le (by decide) h2)) (P.lt _ (Nat.lt_of_lt_of_le (pre_lt h1) mN)) ?_
      rw [ha 0 (m - 1) (Nat.sub_pos_of_lt e1) (pre_lt h1), if_pos rfl]
      exact h m p h1 mN P ha
    · have e1 : m = 1 := Nat.le_antisymm (Nat.le_of_not_lt e1) h1
      subst e1
      rw [if_neg (Nat.lt_irrefl 1)]
      unfold kas_descPart
      rw [KasT.kasWp_bind]
      have d0 := hd (Nat.lt_of_lt_of_eq h2 e1N.symm)
      refine desc_run hc hl P (N - (1 + 1)) (1 + 1) (by decide) (Nat.le_of_eq e2N) (fun i j a b => ?_) fun m h1 hm hd2 => ?_
      · have : j = 1 := Nat.le_antisymm (Nat.le_of_lt_succ b) (Nat.lt_of_le_of_lt (Nat.zero_le i) a)
        subst this
        have : i = 0 := Nat.lt_one_iff.mp a
        subst this
        exact d0
      · rw [if_neg (Nat.lt_irrefl _)]
        unfold kas_tail3
        rw [KasT.kasWp_bind]
        dsimp only
        have mN : m ≤ N := Nat.le_trans hm (Nat.le_of_eq e2N)
        have em := Nat.le_of_eq (Nat.add_sub_of_le mN)
        have h1 : 1 ≤ m := Nat.le_trans (by decide) h1
        exact asc_run hc hl (rev_ok P m) (N - m) m h1 em (rev_asc P mN hd2) fun m2 a b c _ => h m2 _ (Nat.le_trans h1 a) (Nat.le_trans b em) (rev_ok P m) c
theorem mid_le {l r : Nat} (h : l < r) : l ≤ (l + r) / 2 ∧ (l + r) / 2 < r :=
  ⟨(Nat.le_div_iff_mul_le (by decide)).mpr (by rw [Nat.mul_two]; exact Nat.add_le_add_left (Nat.le_of_lt h) l), (Nat.div_lt_iff_lt_mul (by decide)).mpr (by rw [Nat.mul_two]; exact Nat.add_lt_add_right h r)⟩
theorem place_run (hc : CmpIs cmp lt N s) (hl : LtOk lt N) (P : PermOk p N) {k : Nat} (hk : k < N) (ha : AscTo lt p k) {Q : Nat → Shared → Prop} : ∀ (f l r : Nat), l ≤ r → r ≤ k → r - l ≤ f →
    (∀ i, i < l → lt (at_ p i) (at_ p k) = true) → (∀ i, r ≤ i → i < k → lt (at_ p k) (at_ p i) = true) →
    (∀ l, l ≤ k → (∀ i, i < l → lt (at_ p i) (at_ p k) = true) → (∀ i, l ≤ i → i < k → lt (at_ p k) (at_ p i) = true) → Q l s) → (kas_place p k f l r).kasWp cmp Q s
  | 0, l, r, h1, h2, hf, a, b, h => h l (Nat.le_trans h1 h2) a fun i x y => b i (Nat.le_trans (Nat.le_of_sub_eq_zero (Nat.eq_zero_of_le_zero hf)) x) y
  | f + 1, l, r, h1, h2, hf, a, b, h => by
    unfold kas_place
    by_cases e : l ≥ r
    · rw [if_pos e]; exact h l (Nat.le_trans h1 h2) a fun i x y => b i (Nat.le_trans e x) y
    · rw [if_neg e]
      show cmp (at_ p k) (at_ p ((l + r) / 2)) (fun c s' => (if c = true then kas_place p k f l ((l + r) / 2) else kas_place p k f ((l + r) / 2 + 1) r).kasWp cmp Q s') s
      obtain ⟨ml, mr⟩ := mid_le (Nat.lt_of_not_le e)
      revert ml mr
      generalize (l + r) / 2 = m
      intro ml mr
      have mk : m < k := Nat.lt_of_lt_of_le mr h2
      have mN : m < N := Nat.lt_trans mk hk
      refine hc _ _ _ (P.lt _ hk) (P.lt _ mN) ?_
      cases e2 : lt (at_ p k) (at_ p m) with
      | true =>
        rw [if_pos rfl]
        refine place_run hc hl P hk ha f l m ml (Nat.le_of_lt mk) (Nat.le_of_lt_succ (Nat.lt_of_lt_of_le (Nat.sub_lt_sub_right ml mr) hf)) a (fun i x y => ?_) h
        by_cases ei : i = m
        · rw [ei]; exact e2
        · exact hl.trans _ _ _ (P.lt _ hk) (P.lt _ mN) (P.lt _ (Nat.lt_trans y hk)) e2 (ha _ i (Nat.lt_of_le_of_ne x (Ne.symm ei)) y)
      | false =>
        rw [if_neg (by simp)]
        have e3 : lt (at_ p m) (at_ p k) = true := hl.total _ _ (P.lt _ hk) (P.lt _ mN) (fun q => Nat.ne_of_gt mk (P.inj _ _ hk mN q)) e2
        refine place_run hc hl P hk ha f (m + 1) r mr h2 (Nat.le_trans (Nat.sub_le_sub_left (Nat.succ_le_succ ml) r) (Nat.pred_le_pred hf)) (fun i x => ?_) b h
        by_cases ei : i = m
        · rw [ei]; exact e3
        · have im := Nat.lt_of_le_of_ne (Nat.le_of_lt_succ x) ei
          exact hl.trans _ _ _ (P.lt _ (Nat.lt_trans im mN)) (P.lt _ mN) (P.lt _ hk) (ha i _ im mk) e3
theorem bubble_asc (P : PermOk p N) {k l : Nat} (hk : k < N) (hlk : l ≤ k) (ha : AscTo lt p k) (h1 : ∀ i, i < l → lt (at_ p i) (at_ p k) = true) (h2 : ∀ i, l ≤ i → i < k → lt (at_ p k) (at_ p i) = true) : AscTo lt (bubble p k (k - l)) (k + 1) := by
  have e : ∀ i, at_ (bubble p k (k - l)) i = if i = l then at_ p k else if l < i ∧ i ≤ k then at_ p (i - 1) else at_ p i := fun i => by
    rw [at_eq, getElem?_bubble (by rw [P.size]; exact hk) (k - l) (Nat.sub_le k l)]
    rw [Nat.sub_sub_self hlk]
    by_cases a : i = l
    · rw [if_pos a, if_pos a, at_eq]
    · by_cases b : l < i ∧ i ≤ k
      · rw [if_neg a, if_neg a, if_pos b, if_pos b, at_eq]
      · rw [if_neg a, if_neg a, if_neg b, if_neg b, at_eq]
  intro i j hij hj
  rw [e i, e j]
  have jk := Nat.le_of_lt_succ hj
  have j1k : j - 1 < k := Nat.lt_of_lt_of_le (pre_lt (Nat.lt_of_le_of_lt (Nat.zero_le i) hij)) jk
  by_cases ei : i = l
  · have lj : l < j := Nat.lt_of_le_of_lt (Nat.le_of_eq ei.symm) hij
    rw [if_pos ei, if_neg (Nat.ne_of_gt lj), if_pos ⟨lj, jk⟩]
    exact h2 _ (Nat.le_sub_one_of_lt lj) j1k
  · rw [if_neg ei]
    by_cases ej : j = l
    · have il := Nat.lt_of_lt_of_eq hij ej
      rw [if_pos ej, if_neg (fun q => Nat.lt_irrefl _ (Nat.lt_trans q.1 il))]
      exact h1 _ il
    · rw [if_neg ej]
      by_cases a : l < i ∧ i ≤ k
      · rw [if_pos a, if_pos ⟨Nat.lt_trans a.1 hij, jk⟩]
        exact ha _ _ (Nat.sub_lt_sub_right (Nat.lt_of_le_of_lt (Nat.zero_le l) a.1) hij) j1k
      · rw [if_neg a]
        by_cases b : l < j ∧ j ≤ k
        · rw [if_pos b]
          exact ha _ _ (Nat.lt_of_lt_of_le (Nat.lt_of_le_of_ne (Nat.le_of_not_lt fun q => a ⟨q, Nat.le_of_lt (Nat.lt_of_lt_of_le hij jk)⟩) ei) (Nat.le_sub_one_of_lt b.1)) j1k
        · rw [if_neg b]
          exact ha _ _ hij (Nat.lt_of_lt_of_le (Nat.lt_of_le_of_ne (Nat.le_of_not_lt fun q => b ⟨q, jk⟩) ej) hlk)
theorem bin_run (hc : CmpIs cmp lt N s) (hl : LtOk lt N) {Q : Array Nat → Shared → Prop} : ∀ (f : Nat) (p : Array Nat) (k : Nat), PermOk p N → k + f ≤ N → AscTo lt p k →
    (∀ q, PermOk q N → AscTo lt q (k + f) → Q q s) → (kas_bin f p k).kasWp cmp Q s
  | 0, p, k, P, _, ha, h => h p P ha
  | f + 1, p, k, P, hk, ha, h => by
    show ((kas_place p k k 0 k).bind fun l => kas_bin f (bubble p k (k - l)) (k + 1)).kasWp cmp Q s
    rw [KasT.kasWp_bind]
    have kN : k < N := Nat.lt_of_lt_of_le (Nat.lt_add_of_pos_right (Nat.succ_pos f)) hk
    have ee : k + 1 + f = k + (f + 1) := Nat.succ_add k f
    refine place_run hc hl P kN ha k 0 k (Nat.zero_le _) (Nat.le_refl _) (Nat.le_refl _) (fun i x => absurd x (Nat.not_lt_zero i)) (fun i x y => absurd y (Nat.not_lt_of_le x)) fun l hlk a b => ?_
    exact bin_run hc hl f (bubble p k (k - l)) (k + 1) (permOk_of_perm P (bubble_perm _ _ _)) (Nat.le_trans (Nat.le_of_eq ee) hk) (bubble_asc P kN hlk ha a b) fun q Pq hq => h q Pq (by rw [← ee]; exact hq)
theorem sort_run (hc : CmpIs cmp lt N s) (hl : LtOk lt N) (h2 : 2 ≤ N) {Q : Array Nat → Shared → Prop} (h : ∀ q, PermOk q N → AscTo lt q N → Q q s) : (kas_sort N).kasWp cmp Q s := by
  unfold kas_sort
  rw [KasT.kasWp_bind]
  refine count_run hc hl (permOk_range N) h2 fun n q h1 hn P ha => ?_
  dsimp only
  by_cases e : n < N
  · rw [if_pos e, Nat.max_eq_left h1]
    exact bin_run hc hl (N - n) q n P (Nat.le_of_eq (Nat.add_sub_of_le hn)) ha fun q' P' h' => h q' P' (by rw [Nat.add_sub_of_le hn] at h'; exact h')
  · rw [if_neg e]
    exact h q P (by rw [Nat.le_antisymm hn (Nat.le_of_not_lt e)] at ha; exact ha)
end
end
section
set_option maxRecDepth 100000
theorem at_list {p : Array Nat} {n : Nat} (P : PermOk p n) (i : Nat) (hi : i < p.toList.length) : p.toList[i] = at_ p i := by
  rw [at_eq]; simp at hi; simp [hi]
theorem asc_pair {p : Array Nat} {n : Nat} {lt : Nat → Nat → Bool} (P : PermOk p n) (h : AscTo lt p n) : p.toList.Pairwise (fun a b => lt a b = true) := by
  refine List.pairwise_iff_getElem.mpr fun i j hi hj hij => ?_
  rw [at_list P, at_list P]
  exact h i j hij (by rw [← P.size]; simpa using hj)
theorem perm_range {p : Array Nat} {n : Nat} (P : PermOk p n) : p.toList.Perm (List.range n) := P.perm
theorem ints_of {p : Array Nat} {n : Nat} {vs : List Value} (P : PermOk p n) (h : ∀ i, i < n → ∃ t, vs.getD i Value.none = .int i t) : IntsAre (p.toList.map fun i => vs.getD i Value.none) (p.toList.map fun j => ((j : Nat) : Int)) := by
  have hm : ∀ x ∈ p.toList, x < n := fun x hx => List.mem_range.mp ((perm_range P).mem_iff.mp hx)
  revert hm
  generalize p.toList = l
  intro hm
  induction l with
  | nil => exact .nil
  | cons x l ih =>
    obtain ⟨t, e⟩ := h x (hm x (.head _))
    rw [List.map_cons, List.map_cons, e]
    exact .cons _ _ (ih fun y hy => hm y (.tail _ hy))
section
variable {prog : Program} {w : World} {A : Around} {E : Value → Shared → Prop} {s : Shared} {h₀ : Heap} {L : Addr} {m : Str → Option Value} {news : List (Addr × Obj)}
theorem collect_range {r : Addr} {a b c : Int} {t u v : Tok} {n : Nat} {R : List Value → Shared → Prop} (hh : A.handled = none) (hr : IsRange s.heap r a b c t u v) (hsmall : Builtin.Range.small a b c = true)
    (hn : Builtin.Range.rangeSize a b c = n) (hlen : n ≤ 2 ^ 24)
    (h : ∀ (h' : Heap) (tk : Nat) (acc : Array Value), (∀ b o, s.heap.get? b = some o → h'.get? b = some o) → ItemsOf (fun i v => ∃ t, v = .int (a + i * c) t) acc n → R acc.toList { s with heap := h', toks := tk }) :
    wpAny (model prog w) A (collect (.ref r)) R E s := by
  unfold collect
  refine wpAny_bind (wpAny_runValue (codeAny_builtin entry_proto_collect' ?_))
  rw [Around.under_plainId PySem.F.plain_proto_collect _]
  show wpAny _ A.in1 (newList [] >>= fun l => again (.builtin "list.__iadd__" ⟨[l, .ref r], []⟩)) _ _ s
  refine wpAny_bind (wpAny_newObj_type ?_)
  refine wpAny_pure ⟨plainId_quiet PySem.F.plain_list_iadd _, codeAny_builtin entry_list_iadd' ?_⟩
  rw [Around.under_plainId PySem.F.plain_list_iadd _]
  have hS₁ : (s.heap.push { cls := .type "list", data := .seq ([] : List Value).toArray }).get? s.heap.objs.size = some { cls := .type "list", data := .seq #[] } := Heap.get?_push_size _ rfl
  show wpAny _ A.in1 (Builtin.List.listExtendWith (.ref s.heap.objs.size) (.ref r) (.ref s.heap.objs.size)) _ _ _
  have key := wpAny_extend_range (prog := prog) (w := w) (A := A) (s := { s with heap := s.heap.push { cls := .type "list", data := .seq ([] : List Value).toArray } })
    (R := fun (q : Result) (s' : Shared) => ∃ (h' : Heap) (tk : Nat) (acc' : Array Value) (c' : Nat), q = .ok (.ret (.ref s.heap.objs.size)) ∧ s' = { s with heap := h', toks := tk } ∧
      (∀ b o, s.heap.get? b = some o → h'.get? b = some o) ∧ h'.get? s.heap.objs.size = some { cls := .type "list", dict := none, data := .seq acc' c', slots := #[] } ∧ ItemsOf (fun i v => ∃ t, v = .int (a + i * c) t) acc' n)
    hh (Heap.get?_push_of_some _ hr) hsmall hn hlen s.heap.objs.size (.ref s.heap.objs.size) 0 hS₁
    (fun h' tk acc' c' hk hS' hacc => ⟨h', tk, acc', c', rfl, rfl, fun b o e => hk b o (Nat.ne_of_lt (Heap.lt_size e)) (Heap.get?_push_of_some _ e), hS', hacc⟩)
  refine wpAny_mono key (fun fin s' x => ?_) fun e s' x => ?_
  · cases fin with
    | done f =>
      obtain ⟨h', tk, acc', c', e, rfl, hk, hS', hacc⟩ := x
      cases e
      show wpAny _ A (load s.heap.objs.size >>= _) _ _ _
      refine wpAny_bind (wpAny_load hS' ?_)
      exact wpAny_pure (h h' tk acc' hk hacc)
    | again c₁ =>
      refine ⟨x.1, codeAny_mono x.2 fun q s₂ y => ?_⟩
      obtain ⟨h', tk, acc', c', rfl, rfl, hk, hS', hacc⟩ := y
      show wpAny _ A (load s.heap.objs.size >>= _) _ _ _
      refine wpAny_bind (wpAny_load hS' ?_)
      exact wpAny_pure (h h' tk acc' hk hacc)
  · obtain ⟨_, _, _, _, e', _⟩ := x
    cases e'
theorem sorted_range {r q : Addr} {n : Nat} {t u v : Tok} {Q : Value → Shared → Prop} (hh : A.handled = none) (F : Fr h₀ L s.heap m) (N : News h₀ L s.heap news) (hr : IsRange s.heap r 0 n 1 t u v) (hsmall : Builtin.Range.small 0 n 1 = true) (hsize : Builtin.Range.rangeSize 0 n 1 = n) (h2 : 2 ≤ n) (h64 : n < 64)
    (h : ∀ vs D kS e1 h' tk, vs.length = n → (∀ i, i < n → ∃ t, vs.getD i Value.none = .int i t) → Fr h₀ L h' m → News h₀ L h' ((kS, listOf #[] 0) :: (D, listOf #[] e1) :: news) → @LT.lt Nat _ D kS → (∀ q ∈ news, q.1 < D) →
      KatKeys prog w A.in1.in1 h₀ L m kS (.ref q) (fun ks e s' => wpAny (model prog w) A.in1.in1 (keyKind' (List.toArray ks)) (fun κ s'' => (kas_sort vs.length).kasWp (kas_ask prog w A.in1.in1 κ ks) (fun p s3 => KatFin h₀ L m kS D ks e e1 (p.toList.map fun i => vs.getD i Value.none) (fun s4 => Q (.ref D) s4) s3) s'') (fun _ _ => False) s') vs [] 0 { s with heap := h', toks := tk }) :
    wpAny (model prog w) A (call (.builtin "sorted") [.ref r] [(Str.ofString "key", .ref q)]) Q E s := by
  refine call_function_entry_kw kind_sorted plain_sorted entry_sorted (ksk_s1 _ _) ?_
  unfold Builtin.«sorted»
  refine wpAny_bind (m := checkCount "sorted" 1 1 _) (wpAny_pure ?_)
  refine wpAny_bind (collect_range (A := A.in1) (n := n) (by exact hh) hr hsmall hsize (by (first | lia | omega)) fun h1 tk acc hk hacc => ?_)
  have hl : acc.toList.length = n := by rw [Array.length_toList]; exact hacc.1
  generalize hvs : acc.toList = vs at hl ⊢
  have F1 := F.keeps hk
  have N1 : News h₀ L h1 news := fun p hp => ⟨hk _ _ (N p hp).1, (N p hp).2⟩
  have hL : L < h1.objs.size := F1.ns.lt
  refine wpAny_bind (wpAny_newList ?_ (by rw [hl, sizeLine_eq]; (first | lia | omega)))
  have hoL : (h1.push (seqObj "list" vs.toArray 0)).get? h1.objs.size = some (seqObj "list" vs.toArray 0) := Heap.get?_push_size _ rfl
  show wpAny _ _ _ _ _ { s with heap := h1.push (seqObj "list" vs.toArray 0), toks := tk }
  refine wpAny_bind (wpAny_holding (wpAny_call_entry_kw slot_list_sort ⟨_, hoL, rfl⟩ entry_list_sort ?body (ksk_l1 _ _)))
  case body =>
    show wpAny (model prog w) A.in1.in1 (Builtin.«list.sort» ⟨[.ref h1.objs.size], [(Str.ofString "key", .ref q)]⟩) _ _ _
    rw [ksk_t1]
    refine kat_keyed (b := false) (s := { s with heap := h1.push (seqObj "list" vs.toArray 0), toks := tk })
      (F1.push _) (N1.grown fun b o e => Heap.get?_push_of_some _ e) hoL (Nat.ne_of_gt hL) (Heap.get?_none_of_le (Nat.le_trans F1.above (Nat.le_of_lt hL)))
      (fun p hp => Nat.ne_of_lt (Heap.lt_size (N1 p hp).1)) (by (first | lia | omega)) (by (first | lia | omega)) fun kS e1 h' F' N' l0 l1 => ?_
    refine kat_keys_mono (h vs h1.objs.size kS e1 h' tk hl (fun i hi => ?_) F' N' l0 fun p hp => Heap.lt_size (N1 p hp).1) fun ks e s' hl' hd => ?_
    · have hi' : i < vs.length := by (first | lia | omega)
      obtain ⟨t, e⟩ := hacc.2 i (vs[i]) (by rw [← Array.getElem?_toList, hvs]; exact List.getElem?_eq_getElem hi')
      refine ⟨t, ?_⟩
      rw [List.getD_eq_getElem?_getD, List.getElem?_eq_getElem hi', Option.getD_some, e]
      simp
    · have hl2 : ks.length = vs.length := by simpa using hl'
      refine wpAny_mono hd (fun κ s'' hk => ?_) fun _ _ x => x
      show (kas_sort vs.length).kasWp (kas_ask prog w A.in1.in1 κ ks) _ s''
      rw [kat_ask_eq (vs := vs) hl2] at hk ⊢
      exact kas_wp_mono hk fun p s3 hk' => hk'.mono fun s4 hq => ⟨_, rfl, wpAny_pure ⟨_, rfl, hq⟩⟩
theorem keys_run {kS D q : Addr} {e1 : Nat} {n : Nat} {Fin : List Value → Nat → Shared → Prop} (J : Nat → List Value → List (Addr × Obj) → Prop)
    (hstep : ∀ i t ks news e (s' : Shared), i < n → J i ks news → (∀ p ∈ news, p.1 ≠ kS) → Fr h₀ L s'.heap m → News h₀ L s'.heap ((kS, listOf ks.toArray e) :: (D, listOf #[] e1) :: news) →
      wpAny (model prog w) A (call (.ref q) [.int i t]) (fun k s'' => ∃ h tk news', s'' = { s' with heap := h, toks := tk } ∧ Fr h₀ L h m ∧ News h₀ L h ((kS, listOf ks.toArray e) :: (D, listOf #[] e1) :: news') ∧ (∀ p ∈ news', p.1 ≠ kS) ∧ J (i + 1) (ks ++ [k]) news') (fun _ _ => False) s')
    (hkD : @Ne Nat D kS)
    (hend : ∀ ks news e (s' : Shared), J n ks news → Fr h₀ L s'.heap m → News h₀ L s'.heap ((kS, listOf ks.toArray e) :: (D, listOf #[] e1) :: news) → (∃ h tk, s' = { s with heap := h, toks := tk }) → (∀ p ∈ news, p.1 ≠ kS) → Fin ks e s') :
    ∀ (vs : List Value) (i : Nat) (ks : List Value) (news : List (Addr × Obj)) (e : Nat) (s' : Shared), i + vs.length = n → (∀ j, j < vs.length → ∃ t, vs.getD j Value.none = .int ((i + j : Nat) : Int) t) → J i ks news → Fr h₀ L s'.heap m → News h₀ L s'.heap ((kS, listOf ks.toArray e) :: (D, listOf #[] e1) :: news) → (∃ h tk, s' = { s with heap := h, toks := tk }) → (∀ p ∈ news, p.1 ≠ kS) →
      KatKeys prog w A h₀ L m kS (.ref q) Fin vs ks e s'
  | [], i, ks, news, e, s', hi, hv, hJ, F, N, hs, ho => KatKeys.nil (hend ks news e s' (by rw [List.length_nil, Nat.add_zero] at hi; rw [← hi]; exact hJ) F N hs ho)
  | x :: vs, i, ks, news, e, s', hi, hv, hJ, F, N, hs, ho => by
    rw [List.length_cons] at hi
    obtain ⟨t, ex⟩ := hv 0 (by simp)
    have ex : x = .int ((i : Nat) : Int) t := ex
    subst ex
    obtain ⟨h₁, tk₁, rfl⟩ := hs
    refine KatKeys.cons (wpAny_mono (hstep i t ks news e _ (by (first | lia | omega)) hJ ho F N) (fun k s'' hk => ?_) fun _ _ x => x)
    obtain ⟨h, tk, news', rfl, F', N', off, hJ'⟩ := hk
    refine KatBack.intro F' N' (g := fun o => (kS, o) :: (D, listOf #[] e1) :: news') (.head fun p hp => ?_) fun h' c F2 N2 => ?_
    · rcases List.mem_cons.mp hp with rfl | hp
      · exact hkD
      · exact off p hp
    · refine keys_run J hstep hkD hend vs (i + 1) (ks ++ [k]) news' c _ (by (first | lia | omega)) (fun j hj => ?_) hJ' F2 N2 ⟨h', tk, rfl⟩ off
      obtain ⟨t, e⟩ := hv (j + 1) (by simp; (first | lia | omega))
      refine ⟨t, ?_⟩
      rw [show i + 1 + j = i + (j + 1) by (first | lia | omega)]
      exact e
theorem sortedJ {r q : Addr} {n : Nat} {t u v : Tok} {Q : Value → Shared → Prop} {κ : SortKind} {lt : Nat → Nat → Bool} (J : Addr → Nat → List Value → List (Addr × Obj) → Prop) (hh : A.handled = none) (F : Fr h₀ L s.heap m) (N : News h₀ L s.heap news) (hr : IsRange s.heap r 0 n 1 t u v) (hsmall : Builtin.Range.small 0 n 1 = true) (hsize : Builtin.Range.rangeSize 0 n 1 = n) (h2 : 2 ≤ n) (h64 : n < 64)
    (hJ0 : ∀ D, (∀ p ∈ news, p.1 < D) → J D 0 [] news) (hlt : LtOk lt n)
    (hstep : ∀ kS D e1 i t ks news e (s' : Shared), i < n → J D i ks news → @LT.lt Nat _ D kS → (∀ p ∈ news, p.1 ≠ kS) → Fr h₀ L s'.heap m → News h₀ L s'.heap ((kS, listOf ks.toArray e) :: (D, listOf #[] e1) :: news) →
      wpAny (model prog w) A.in1.in1 (call (.ref q) [.int i t]) (fun k s'' => ∃ h tk news', s'' = { s' with heap := h, toks := tk } ∧ Fr h₀ L h m ∧ News h₀ L h ((kS, listOf ks.toArray e) :: (D, listOf #[] e1) :: news') ∧ (∀ p ∈ news', p.1 ≠ kS) ∧ J D (i + 1) (ks ++ [k]) news') (fun _ _ => False) s')
    (hoff : ∀ D i ks news, J D i ks news → ∀ p ∈ news, p.1 ≠ D)
    (hkind : ∀ D ks news (s' : Shared) (R : SortKind → Shared → Prop), J D n ks news → News h₀ L s'.heap news → R κ s' → wpAny (model prog w) A.in1.in1 (keyKind' ks.toArray) R (fun _ _ => False) s')
    (hask : ∀ D ks news (s' : Shared) (R : Bool → Shared → Prop) i j, J D n ks news → News h₀ L s'.heap news → i < n → j < n → R (lt i j) s' → wpAny (model prog w) A.in1.in1 (keyLt' κ (ks.getD i Value.none) (ks.getD j Value.none)) R (fun _ _ => False) s')
    (h : ∀ D kS ec ek ks news' h' tk out (js : List Nat), J D n ks news' → List.Perm js (List.range n) → List.Pairwise (fun a b => lt a b = true) js → IntsAre out (js.map fun j => ((j : Nat) : Int)) → Fr h₀ L h' m → News h₀ L h' ((D, listOf out.toArray ec) :: (kS, listOf #[] ek) :: news') → @LT.lt Nat _ D kS → Q (.ref D) { s with heap := h', toks := tk }) :
    wpAny (model prog w) A (call (.builtin "sorted") [.ref r] [(Str.ofString "key", .ref q)]) Q E s := by
  refine sorted_range hh F N hr hsmall hsize h2 h64 fun vs D kS e1 h' tk hl hv F1 N1 ltD lnD => ?_
  refine keys_run (s := s) (n := n) (J D) (fun i t ks news e s' hi hJ ho F N => hstep kS D e1 i t ks news e s' hi hJ ltD ho F N) (Nat.ne_of_lt ltD) (fun ks news' e s' hJ F2 N2 hs off => ?_) vs 0 [] news 0 _ (by (first | lia | omega)) (fun j hj => ?_) (hJ0 D lnD) F1 N1 ⟨_, _, rfl⟩ (fun p hp => Nat.ne_of_lt (Nat.lt_trans (lnD p hp) ltD))
  · obtain ⟨h2', tk2, rfl⟩ := hs
    have N2' : News h₀ L h2' news' := fun p hp => N2 p (.tail _ (.tail _ hp))
    refine hkind D ks news' _ _ hJ N2' ?_
    rw [hl]
    have hC : CmpIs (kas_ask prog w A.in1.in1 κ ks) lt n { s with heap := h2', toks := tk2 } := fun i j C hi hj hC => hask D ks news' _ C i j hJ N2' hi hj hC
    refine sort_run hC hlt h2 fun p P ha => ?_
    refine KatFin.intro F2 N2 (g := fun o => (kS, o) :: (D, listOf #[] e1) :: news') (.head fun p hp => ?_) fun h3 c3 F3 N3 => ?_
    · rcases List.mem_cons.mp hp with rfl | hp
      · exact fun q => Nat.ne_of_lt ltD q
      · exact off p hp
    refine KasFin.intro F3 N3 (g := fun o => (kS, listOf #[] c3) :: (D, o) :: news') (.tail (fun q => Nat.ne_of_gt ltD q) (.head fun p hp => hoff D n ks news' hJ p hp)) fun h4 c4 F4 N4 => ?_
    refine h D kS c4 c3 ks news' h4 tk2 _ p.toList hJ (perm_range P) (asc_pair P ha) (ints_of P fun i hi => hv i hi) F4 (fun p hp => N4 p ?_) ltD
    rcases List.mem_cons.mp hp with rfl | hp
    · exact .tail _ (.head _)
    rcases List.mem_cons.mp hp with rfl | hp
    · exact .head _
    · exact .tail _ (.tail _ hp)
  · rw [Nat.zero_add]; exact hv j (by (first | lia | omega))
end
end
section
set_option maxRecDepth 100000
noncomputable def isW (x : Str) : Value → Bool
  | .str y _ => y.cps.toList == x.cps.toList
  | _ => false
theorem isW_eq {x : Str} {t : Tok} {ws : List (Str × Tok)} : ∀ y, y ∈ (strValues ws).toArray → MeetsSeq.EqGives y (.str x t) (isW x y) := by
  intro y hy
  simp only [strValues, List.mem_toArray, List.mem_map] at hy
  obtain ⟨p, _, rfl⟩ := hy
  exact PySem.SeqRoads2.EqGives.str _ _ _ _
theorem beq_cps (x y : Str) : (y.cps.toList == x.cps.toList) = decide (y = x) := by
  rw [Bool.eq_iff_iff, beq_iff_eq, decide_eq_true_eq]
  constructor
  · intro e; exact Str.ext' (Array.toList_inj.mp e)
  · rintro rfl; rfl
section
variable {prog : Program} {w : World} {A : Around} {E : Value → Shared → Prop} {s : Shared}
theorem words_in {l : Addr} {x : Str} {t : Tok} {ws : List (Str × Tok)} {Q : Value → Shared → Prop} (hl : s.heap.IsList l (strValues ws).toArray) (h : Q (.bool (decide (x ∈ ws.map (·.1)))) s) :
    wpAny (model prog w) A (compareOp .In (.str x t) (.ref l)) Q E s := by
  refine SeqInW.in_listW (isW x) isW_eq hl ?_
  have e : (strValues ws).toArray.any (isW x) = decide (x ∈ ws.map (·.1)) := by
    rw [← Array.any_toList, Bool.eq_iff_iff, List.any_eq_true, decide_eq_true_eq, List.mem_map]
    simp only [strValues, List.mem_map]
    constructor
    · rintro ⟨v, ⟨p, hp, rfl⟩, e⟩
      refine ⟨p, hp, ?_⟩
      have e : (p.1.cps.toList == x.cps.toList) = true := e
      rw [beq_cps] at e
      exact of_decide_eq_true e
    · rintro ⟨p, hp, e⟩
      refine ⟨_, ⟨p, hp, rfl⟩, ?_⟩
      show (p.1.cps.toList == x.cps.toList) = true
      rw [beq_cps]
      exact decide_eq_true e
  rw [e]; exact h
theorem words_index {l : Addr} {n : Nat} {x : Str} {t : Tok} {ws : List (Str × Tok)} {Q : Value → Shared → Prop} {j : Nat} (hl : s.heap.get? l = some (listOf (strValues ws).toArray n)) (hj : j < ws.length) (hz : ws.length ≤ 100000)
    (e : (ws[j]'hj).1 = x) (ne : ∀ i (hi : i < ws.length), i < j → (ws[i]'hi).1 ≠ x)
    (h : Q (.int (j : Int) s.toks) { s with toks := s.toks + 1 }) : wpAny (model prog w) A (call (.builtin "list.index") [.ref l, .str x t]) Q E s := by
  have hsz : (strValues ws).toArray.size = ws.length := by simp [strValues]
  refine call_meets PySem.F.slot_list_index ⟨_, hl, rfl⟩ PySem.F.entry_list_index (PySem.F.args_list_index_2 _ _)
    (MeetsSeq.list_index l (strValues ws).toArray n (.str x t) (isW x) isW_eq j (by (first | lia | omega)) (by (first | lia | omega)) ?_ ?_) ⟨hl, h⟩
  · simp only [strValues, List.getElem_toArray, List.getElem_map]
    show ((ws[j]'hj).1.cps.toList == x.cps.toList) = true
    rw [beq_cps]; exact decide_eq_true e
  · intro i hi hlt
    have hi' : i < ws.length := hsz ▸ hi
    simp only [strValues, List.getElem_toArray, List.getElem_map]
    show ((ws[i]'hi').1.cps.toList == x.cps.toList) = false
    rw [beq_cps]; exact decide_eq_false (ne i hi' hlt)
end
end
section
set_option maxRecDepth 100000
theorem st_canLayAll0 : ∀ ns : List Str, (∀ x ∈ ns, PyData.strOk x = true) → PyData.canLayAll0 (ns.map PyData.str) = true
  | [], _ => rfl
  | x :: r, h => by simp only [List.map_cons, PyData.canLayAll0, st_canLayAll0 r (fun y hy => h y (.tail _ hy)), PyData.canLay0, Bool.and_true, h x (.head _)]
theorem st_depthAll : ∀ ns : List Str, PyData.depthAll (ns.map PyData.str) = 0
  | [] => rfl
  | _ :: r => by simp only [List.map_cons, PyData.depthAll, PyData.depth, st_depthAll r, Nat.max_self]
theorem st_shaped (ns : List Str) (h : ∀ x ∈ ns, PyData.strOk x = true) : SeqAt.shaped (.list (ns.map PyData.str)) = true := by
  simp [SeqAt.shaped, PyData.canLay0, st_canLayAll0 ns h, PyData.depth, st_depthAll]
theorem st_sameAll : ∀ ns ms : List Str, PySem.Spec.sameAll (ns.map PyData.str) (ms.map PyData.str) = decide (ns = ms)
  | [], [] => rfl
  | [], _ :: _ => rfl
  | _ :: _, [] => rfl
  | a :: r, b :: t => by
    rw [List.map_cons, List.map_cons, PySem.Spec.sameAll, st_sameAll r t]
    simp only [PySem.Spec.same]
    by_cases h : a = b <;> by_cases h' : r = t <;> simp [h, h']
theorem st_same (ns ms : List Str) : PySem.Spec.same (.list (ns.map PyData.str)) (.list (ms.map PyData.str)) = decide (ns = ms) := by
  simp only [PySem.Spec.same]; exact st_sameAll ns ms
theorem st_carried : ∀ (ws : List (Str × Tok)), CarriedAll (strValues ws) ((ws.map (·.1)).map PyData.str)
  | [] => .nil
  | (x, t) :: r => .cons (.str x t) (st_carried r)
section
variable {prog : Program} {w : World} {A : Around} {E : Value → Shared → Prop} {s : Shared} {a b : Addr} {ws us : List (Str × Tok)} {Q : Value → Shared → Prop}
theorem words_eq (ha : s.heap.IsList a (strValues ws).toArray) (hb : s.heap.IsList b (strValues us).toArray) (h1 : ∀ x ∈ ws.map (·.1), PyData.strOk x = true) (h2 : ∀ x ∈ us.map (·.1), PyData.strOk x = true) (hu : A.units + 64 < cLine) (h : Q (.bool (decide (ws.map (·.1) = us.map (·.1)))) s) :
    wpAny (model prog w) A (compareOp .Eq (.ref a) (.ref b)) Q E s :=
  eq_dataH_same (reads_newData ha (st_carried ws)) (reads_newData hb (st_carried us)) (st_shaped _ h1) (st_shaped _ h2) hu (SeqAt.noMix_of_shape (.list .str) rfl _ _ (list_map_has fun _ => rfl) (list_map_has fun _ => rfl)) (by rw [st_same]; exact h)
theorem words_ne (ha : s.heap.IsList a (strValues ws).toArray) (hb : s.heap.IsList b (strValues us).toArray) (h1 : ∀ x ∈ ws.map (·.1), PyData.strOk x = true) (h2 : ∀ x ∈ us.map (·.1), PyData.strOk x = true) (hu : A.units + 64 < cLine) (h : Q (.bool (!decide (ws.map (·.1) = us.map (·.1)))) s) :
    wpAny (model prog w) A (compareOp .NotEq (.ref a) (.ref b)) Q E s :=
  ne_dataH_same (reads_newData ha (st_carried ws)) (reads_newData hb (st_carried us)) (st_shaped _ h1) (st_shaped _ h2) hu (SeqAt.noMix_of_shape (.list .str) rfl _ _ (list_map_has fun _ => rfl) (list_map_has fun _ => rfl)) (by rw [st_same]; exact h)
end
end
theorem Again.at6 {M : Model} {A : Around} {env : Env} {Q : Flow → Shared → Prop} {E : Value → Shared → Prop} {s : Shared} (h : Q .next s) : wpAny M A (execs [] env) Q E s := by w_top off; walk1; exact h
section
set_option maxRecDepth 100000
noncomputable def optV (a : Option Str) (t : Tok) : Value := match a with
  | none => .none
  | some x => .str x t
noncomputable def locn (a b : Option Str) : Str := match b with
  | none => a.getD "C"
  | some y => a.getD "C" ++ "." ++ y
theorem In.keepAll {h₀ : Heap} {need : List (Addr × Obj)} {s : Shared} {g h' : Heap} {L' L'' : Addr} {m : Str → Option Value} (I : In h₀ need s g L') (hn : Led h₀ s.heap need) (F : Fr g L'' h' m) (hv : ∀ p ∈ need, h'.get? p.1 = some p.2) : Keep [] s.heap h' := fun b o _ e => by
  by_cases hb : b ∈ need.map (·.1)
  · obtain ⟨p, hp, rfl⟩ := List.mem_map.mp hb
    rw [(hn p hp).1] at e
    exact e ▸ hv p hp
  · exact I.keepBack F b o hb e
theorem len_C : (Str.ofString "C").length = 1 := rfl
theorem len_dot : (Str.ofString ".").length = 1 := rfl
local macro_rules | `(tactic| walk_at "binaryOp Add str str") => `(tactic| (refine SB.add (hsz := ?hsz) ?_; (case hsz => (simp only [Str.length_append, len_C, len_dot, sizeLine_eq]; (first | lia | omega))); intro _ _))
section
variable {w : World} {mg mb : Str → Option Value} {g h₀ : Heap} {A : Around} {R : Result → Shared → Prop} {s s' : Shared} {E : Value → Shared → Prop}
set_option maxHeartbeats 2000000
theorem strcoll_spec (G : Gnd w mg mb h₀) (st : h₀.StaysIn s.heap) (hroom : A.depth < 900) {a b : Str} {ta tb : Tok}
   (h : ∀ h' tk t, Keep [] s.heap h' → R (.ok (.ret (.int (b2i (decide (b.cps.toList < a.cps.toList)) - b2i (decide (a.cps.toList < b.cps.toList))) t))) { s with heap := h', toks := tk }) :
   codeAny (model PG w) A (.call (.ref 38) ⟨[.str a ta, .str b tb], []⟩) R s := by
  refine enter G st (by with_unfolding_all rfl) (by with_unfolding_all rfl) (by show A.depth < 1000; walk_at "om") (BindsTo.of_eq (binds := [("a", .str a ta), ("b", .str b tb)]) rfl) (by exact locs rfl) [] (by intro p hp; cases hp) ?_
  intro g L' h₁ tk I F N G'
  have XK := G'.k
  obtain ⟨me, TT⟩ := G'.t
  k_steps
  exact h _ _ _ (I.keepBack (by assumption))
theorem locname_spec (G : Gnd w mg mb h₀) (st : h₀.StaysIn s.heap) (hroom : A.depth < 900) (hh : A.handled = none) {q : Addr} {k : Nat} {a b : Option Str} {ta tb : Tok} (hn : Led h₀ s.heap [(q, { cls := .type "tuple", data := .seq #[optV a ta, optV b tb] k })])
   (ha : ∀ x, a = some x → x.cps.size ≤ 400000) (hb : ∀ x, b = some x → x.cps.size ≤ 400000)
   (h : ∀ h' tk t, Keep [] s.heap h' → R (.ok (.ret (.str (locn a b) t))) { s with heap := h', toks := tk }) :
   codeAny (model PG w) A (.call (.ref 52) ⟨[.ref q], []⟩) R s := by
  refine enter G st (by with_unfolding_all rfl) (by with_unfolding_all rfl) (by show A.depth < 1000; walk_at "om") (BindsTo.of_eq (binds := [("localetuple", .ref q)]) rfl) (by exact locs rfl) _ hn ?_
  intro g L' h₁ tk I F N G'
  have XK := G'.k
  obtain ⟨me, TT⟩ := G'.t
  iterate 5 walk1
  refine unpackN_ F N ⟨_, N.get (by k_mem), rfl, _, rfl⟩ (by exact hh) (by exact rfl) (by exact rfl) ?_
  intro h2 F2 N2
  have hz : ∀ x : Str, x.cps.size ≤ 400000 → ("." : Str).cps.size + x.cps.size ≤ sizeLine := fun x hx => by rw [sizeLine_eq]; show 1 + _ ≤ _; walk_at "om"
  cases a with
  | none =>
    cases b with
    | none =>
      dsimp only [optV]
      k_steps
      (with_reducible rename News _ _ _ _ => N9)
      exact h _ _ _ (I.keepAll hn (by assumption) (List.forall_mem_cons.mpr ⟨N9.get (by k_mem), List.forall_mem_nil _⟩))
    | some y =>
      have hy : y.length ≤ 400000 := hb y rfl
      dsimp only [optV]
      k_steps
      (with_reducible rename News _ _ _ _ => N9)
      exact h _ _ _ (I.keepAll hn (by assumption) (List.forall_mem_cons.mpr ⟨N9.get (by k_mem), List.forall_mem_nil _⟩))
  | some x =>
    have hx : x.length ≤ 400000 := ha x rfl
    cases b with
    | none =>
      dsimp only [optV]
      k_steps
      (with_reducible rename News _ _ _ _ => N9)
      exact h _ _ _ (I.keepAll hn (by assumption) (List.forall_mem_cons.mpr ⟨N9.get (by k_mem), List.forall_mem_nil _⟩))
    | some y =>
      have hy : y.length ≤ 400000 := hb y rfl
      dsimp only [optV]
      k_steps
      (with_reducible rename News _ _ _ _ => N9)
      exact h _ _ _ (I.keepAll hn (by assumption) (List.forall_mem_cons.mpr ⟨N9.get (by k_mem), List.forall_mem_nil _⟩))
end
end
section
local macro_rules | `(tactic| walk_at "eval Name") => `(tactic| (k_dflt (refine' nameX_L (by k_asm) ?v ?_ (by exact rfl) (by exact rfl); (case v => (repeat (first | assumption | exact lk_eq | refine lk_ne (by decide) ?_))); k_whole)))
local macro_rules | `(tactic| walk_at "loadName") => `(tactic| (k_dflt (refine' loadL (by k_asm) ?v ?_ (by exact rfl) (by exact rfl); (case v => (repeat (first | assumption | exact lk_eq | refine lk_ne (by decide) ?_))); k_whole)))
theorem Again.at7 {M : Model} {A : Around} {env : Env} {Q : Flow → Shared → Prop} {E : Value → Shared → Prop} {s : Shared} (h : Q .next s) : wpAny M A (execs [] env) Q E s := by w_top off; walk1; exact h
section
set_option maxRecDepth 100000
/-! the words of a text of signs -/
noncomputable def isWs (c : Nat) : Bool := decide (c ∈ [10, 9, 13, 32])
noncomputable def bareS : List (Nat × Tok) → Bool → List Nat → List Nat × List (Nat × Tok)
  | [], _, acc => (acc, [])
  | p :: r, b, acc => bif b then bareS r false acc else if isWs p.1 = true then (acc, r) else if p.1 = 92 then bareS r true (acc ++ (rcV r).cps.toList) else bareS r false (acc ++ [p.1])
noncomputable def bare (l : List (Nat × Tok)) (acc : List Nat) : List Nat × List (Nat × Tok) := bareS l false acc
theorem bareS_tail (l : List (Nat × Tok)) (acc : List Nat) : bareS l true acc = bare l.tail acc := by cases l <;> rfl
theorem bare_cons (p : Nat × Tok) (r : List (Nat × Tok)) (acc : List Nat) : bare (p :: r) acc = if isWs p.1 = true then (acc, r) else if p.1 = 92 then bare r.tail (acc ++ (rcV r).cps.toList) else bare r (acc ++ [p.1]) := by
  rw [← bareS_tail]; rfl
noncomputable def quotedS : List (Nat × Tok) → Bool → List Nat → List Nat × List (Nat × Tok)
  | [], _, acc => (acc, [])
  | p :: r, b, acc => bif b then quotedS r false acc else if p.1 = 34 then (acc, r) else if p.1 = 92 then quotedS r true (acc ++ (rcV r).cps.toList) else quotedS r false (acc ++ [p.1])
noncomputable def quoted (l : List (Nat × Tok)) (acc : List Nat) : List Nat × List (Nat × Tok) := quotedS l false acc
theorem quotedS_tail (l : List (Nat × Tok)) (acc : List Nat) : quotedS l true acc = quoted l.tail acc := by cases l <;> rfl
theorem quoted_cons (p : Nat × Tok) (r : List (Nat × Tok)) (acc : List Nat) : quoted (p :: r) acc = if p.1 = 34 then (acc, r) else if p.1 = 92 then quoted r.tail (acc ++ (rcV r).cps.toList) else quoted r (acc ++ [p.1]) := by
  rw [← quotedS_tail]; rfl
noncomputable def word : List (Nat × Tok) → List Nat × List (Nat × Tok)
  | [] => ([], [])
  | p :: r => if isWs p.1 = true then word r else if p.1 = 34 then quoted r [] else if p.1 = 92 then bare r.tail (rcV r).cps.toList else bare r [p.1]
noncomputable def feeds : List (Nat × Tok) → Int
  | [] => 0
  | p :: r => (if p.1 = 10 then 1 else 0) + feeds r
theorem feeds_rc (n : Int) (l : List (Nat × Tok)) : rcN n l + feeds l.tail = n + feeds l := by
  cases l with
  | nil => rfl
  | cons p r =>
    show (if p.1 = 10 then n + 1 else n) + feeds r = n + ((if p.1 = 10 then 1 else 0) + feeds r)
    split <;> walk_at "om"
/-! the text of get_token -/
noncomputable def nthS (l : List Stmt) (i : Nat) : Stmt := l.getD i (.Pass default)
noncomputable def clsBody (s : Stmt) : List Stmt := stB s
noncomputable def forBody (s : Stmt) : List Stmt := stB s
noncomputable def ifBody (s : Stmt) : List Stmt := stB s
noncomputable def ifElse (s : Stmt) : List Stmt := (stP s).2.1
noncomputable def defScope (s : Stmt) : Scope := (stP s).2.2.2.2
noncomputable def gtDef : Stmt := nthS (clsBody (nthS PySem.Challenge.rw_sl0005_01.row.prog.main.body 7)) 2
noncomputable def gtFor : Stmt := nthS (defBody gtDef) 3
noncomputable def bareFor : Stmt := nthS (ifElse (nthS (forBody gtFor) 1)) 2
noncomputable def quoFor : Stmt := nthS (ifBody (nthS (forBody gtFor) 1)) 0
noncomputable abbrev gtEnv (L : Addr) : Env := envOf "_netrclex.get_token" (defScope gtDef) L 80 (.ref 79)
theorem look_eq {x : Str} {v : Value} {m : Str → Option Value} : (fun y : Str => if y = x then some v else m y) x = some v := if_pos rfl
theorem look_ne {x y : Str} {v u : Value} {m : Str → Option Value} (h : y ≠ x) (e : m y = some u) : (fun y : Str => if y = x then some v else m y) y = some u := (if_neg h).trans e
theorem LexBack.news {P : Params} {X : LX} {n : Int} {pend : List (Str × Tok)} {sg : List (Nat × Tok)} {l pre : List (Addr × Obj)} {g h h' : Heap} {L : Addr} {m : Str → Option Value} (LB : LexBack P X n pend sg l h h') (F : Fr g L h m) (N : News g L h (pre ++ l)) (off : ∀ p ∈ pre, p.1 ∉ l.map (·.1)) :
    ∃ l', IsLex P X n pend sg l' ∧ l'.map (·.1) = l.map (·.1) ∧ Fr g L h' m ∧ News g L h' (pre ++ l') := by
  refine hideP fun G9 hG9 => ?_
  obtain ⟨l', IL', hv, hm, kk⟩ := LB
  refine hG9 ?_
  clear hG9
  have N' : News g L h l := fun p hp => N p (List.mem_append_right _ hp)
  refine ⟨l', IL', hm, Fr.after F kk (fun hm' => by obtain ⟨p, hp, e⟩ := List.mem_map.mp hm'; exact (N' p hp).2.1 e) (fun a hm' => by obtain ⟨p, hp, e⟩ := List.mem_map.mp hm'; exact e ▸ (N' p hp).2.2), ?_⟩
  refine Mine.News.told N (by simp only [List.map_append, hm]) fun p hp => ?_
  rcases List.mem_append.mp hp with hp | hp
  · exact kk _ _ (off p hp) (N p (List.mem_append_left _ hp)).1
  · exact hv p hp
theorem str_app (a : List Nat) (y : Str) : (Str.mk a.toArray) ++ y = Str.mk (a ++ y.cps.toList).toArray := by
  apply Str.ext'
  rw [Str.cps_append]
  apply Array.toList_inj.mp
  simp
theorem rcV_len (l : List (Nat × Tok)) : (rcV l).cps.toList.length + l.tail.length = l.length := by
  cases l with
  | nil => rfl
  | cons p r => simp [rcV]; walk_at "om"
inductive GS (P : Params) (g : Heap) (L : Addr) (X : LX) (it q : Addr) (as : List Addr) (pend : List (Str × Tok)) (s : Shared) (ob : Obj) (acc : List Nat) (sg : List (Nat × Tok)) (n : Int) (s' : Shared) : Prop
  | mk (h : Heap) (tk : Nat) (m : Str → Option Value) (l : List (Addr × Obj)) (t : Tok) (es : s' = { s with heap := h, toks := tk }) (F : Fr g L h m) (m1 : m "self" = some (.ref X.lx)) (m2 : m "fiter" = some (.ref it)) (m3 : m "token" = some (.str ⟨acc.toArray⟩ t))
    (N : News g L h ((it, ob) :: (q, methodObj (.ref 73) (.ref X.lx)) :: l)) (il : IsLex P X n pend sg l) (la : l.map (·.1) = as)
section
variable {w : World} {mg mb : Str → Option Value} {g : Heap} {A : Around} {R : Result → Shared → Prop} {s s' : Shared} {E : Value → Shared → Prop}
set_option maxHeartbeats 2000000
theorem GS.next (G : Gnd w mg mb g) (hroom : A.depth < 790) (hh : A.handled = none) {X : LX} {L it q : Addr} {as : List Addr} {pend : List (Str × Tok)} {ts : Tok} {acc : List Nat} {sg : List (Nat × Tok)} {n : Int} {Q : Option Value → Shared → Prop}
    (V : GS w.params g L X it q as pend s (citObj (.ref q) ts) acc sg n s') (hit : @Ne Nat it q) (hia : ∀ a ∈ as, @Ne Nat a it ∧ @Ne Nat a q) (hz : sg.length ≤ 1000000)
    (h0 : sg = [] → ∀ s'', GS w.params g L X it q as pend s citEnd acc [] n s'' → Q none s'')
    (h1 : ∀ p r, sg = p :: r → ∀ t s'', GS w.params g L X it q as pend s (citObj (.ref q) ts) acc r (rcN n (p :: r)) s'' → Q (some (.str ⟨#[p.1]⟩ t)) s'') :
    wpAny (model PG w) A (pyNext (.ref it)) Q E s' := by
  refine hideP fun G9 hG9 => ?_
  obtain ⟨h, tk, m, l, t, rfl, F, m1, m2, m3, N, IL, hla⟩ := V
  refine hG9 ?_
  clear hG9
  have N' : News g L h l := fun p hp => N p (.tail _ (.tail _ hp))
  have o73 := G.k 73 _ (by with_unfolding_all rfl)
  have h73 : h.get? 73 = some _ := F.keep _ _ o73
  refine next_cit hh (N.get (by k_mem)) (N.get (by k_mem)) h73 rfl ?_
  refine method_call (N.get (by k_mem)) ?_
  refine readchar_spec G (by exact F.keep) (by show A.depth < 800; walk_at "om") IL (Mine.News.led N') hz fun h' tk' t' LB => ?_
  refine hideP fun G9 hG9 => ?_
  obtain ⟨l', IL', hv, hm, kk⟩ := LB
  refine hG9 ?_
  clear hG9
  have ni : it ∉ l.map (·.1) := fun hm' => (hia _ (hla ▸ hm')).1 rfl
  have nq : q ∉ l.map (·.1) := fun hm' => (hia _ (hla ▸ hm')).2 rfl
  have n73 : (73 : Addr) ∉ l.map (·.1) := fun hm' => by
    obtain ⟨p, hp, e⟩ := List.mem_map.mp hm'
    have := (N' p hp).2.2
    rw [e, o73] at this; cases this
  have F' := Fr.after F kk (fun hm' => by obtain ⟨p, hp, e⟩ := List.mem_map.mp hm'; exact (N' p hp).2.1 e) (fun a hm' => by obtain ⟨p, hp, e⟩ := List.mem_map.mp hm'; exact e ▸ (N' p hp).2.2)
  have gi := kk _ _ ni (N.get (.head _))
  have gq := kk _ _ nq (N.get (.tail _ (.head _)))
  have Nl : News g L h' ((it, citObj (.ref q) ts) :: (q, methodObj (.ref 73) (.ref X.lx)) :: l') := Mine.News.told N (by simp only [List.map_cons, hm]) (by
    intro p hp
    rcases List.mem_cons.mp hp with rfl | hp
    · exact gi
    · rcases List.mem_cons.mp hp with rfl | hp
      · exact gq
      · exact hv p hp)
  refine ⟨rcV sg, t', rfl, gi, gq, kk _ _ n73 h73, ?_, ?_⟩
  · intro hne
    cases sg with
    | nil => exact absurd rfl hne
    | cons p r => exact h1 p r rfl t' _ ⟨h', tk', m, l', t, rfl, F', m1, m2, m3, Nl, IL', hm.trans hla⟩
  · intro he h2 k2 g2
    cases sg with
    | nil =>
      have li := (N _ (List.Mem.head _)).2
      refine h0 rfl _ ⟨h2, tk', m, l', t, rfl, ?_, m1, m2, m3, ?_, IL', hm.trans hla⟩
      · exact Fr.after (mods := [it]) F' (fun b o nb e => k2 b o (by simpa using nb) e) (by simpa using fun e => li.1 e.symm) (by simpa using li.2)
      · refine Mine.News.told Nl rfl ?_
        intro p hp
        rcases List.mem_cons.mp hp with rfl | hp
        · exact g2
        · have hx := (Nl p (.tail _ hp)).1
          refine k2 _ _ ?_ hx
          rcases List.mem_cons.mp hp with rfl | hp
          · exact fun e => hit e.symm
          · exact (hia _ (by rw [← hla, ← hm]; exact List.mem_map_of_mem hp)).1
    | cons p r => exact absurd (congrArg (fun x : Str => x.cps.size) he) (by show ¬ (1 : Nat) = (Str.ofString "").cps.size; decide)
theorem loadX_L {M : Model} {A : Around} {E : Value → Shared → Prop} {s : Shared} {h₀ : Heap} {L a : Addr} {m : Str → Option Value} {cn : Str} {cs : Scope} {ccd : Value} {cl : List (Str × Addr)} {x : Str} {v : Value} {Q : Value → Shared → Prop} (F : Fr h₀ L s.heap m) (hv : m x = some v) (h : Q v s)
    (hk : cs.kind = .function := by rfl) (hx : (envX cn cs L a ccd cl).kindOf x = some .local := by rfl) : wpAny M A (loadName (envX cn cs L a ccd cl) x) Q E s := wpAny_loadName_local hk hx F.ns hv h
theorem bare_nil (acc : List Nat) : bare [] acc = (acc, []) := rfl
theorem bare_ws {p : Nat × Tok} {r : List (Nat × Tok)} {acc : List Nat} (h : isWs p.1 = true) : bare (p :: r) acc = (acc, r) := by
  rw [bare_cons, if_pos h]
theorem bare_esc {p : Nat × Tok} {r : List (Nat × Tok)} {acc : List Nat} (h : isWs p.1 ≠ true) (h2 : p.1 = 92) : bare (p :: r) acc = bare r.tail (acc ++ (rcV r).cps.toList) := by
  rw [bare_cons, if_neg h, if_pos h2]
theorem bare_in {p : Nat × Tok} {r : List (Nat × Tok)} {acc : List Nat} (h : isWs p.1 ≠ true) (h2 : p.1 ≠ 92) : bare (p :: r) acc = bare r (acc ++ [p.1]) := by
  rw [bare_cons, if_neg h, if_neg h2]
theorem bare_loop (G : Gnd w mg mb g) (hroom : A.depth < 780) (hh : A.handled = none) {X : LX} {L it q : Addr} {as : List Addr} {pend : List (Str × Tok)} {ts : Tok} {px : Pos} {N : Int} {tk : List Nat} {rest : List (Nat × Tok)}
    (hit : @Ne Nat it q) (hia : ∀ a ∈ as, @Ne Nat a it ∧ @Ne Nat a q)
    (hret : ∀ s'' t n, GS w.params g L X it q as pend s (citObj (.ref q) ts) tk rest n s'' → n + feeds rest = N → R (.ok (.ret (.str ⟨tk.toArray⟩ t))) s'')
    (hend : ∀ s'' n, GS w.params g L X it q as pend s citEnd tk [] n s'' → rest = [] → n = N → R (.ok .next) s'')
    {acc : List Nat} {sg : List (Nat × Tok)} {n : Int} (V : GS w.params g L X it q as pend s (citObj (.ref q) ts) acc sg n s') (hb : bare sg acc = (tk, rest)) (hN : n + feeds sg = N) (hz : acc.length + sg.length ≤ 1000000) :
    codeAny (model PG w) A (.forLoop (.Name "ch" px) (.ref it) (forBody bareFor) [] (gtEnv L)) R s' := by
  refine hideI (fun k s' => ∃ acc sg n, GS w.params g L X it q as pend s (citObj (.ref q) ts) acc sg n s' ∧ bare sg acc = (tk, rest) ∧ n + feeds sg = N ∧ acc.length + sg.length ≤ 1000000 ∧ sg.length ≤ k) fun I toI ofI => ?_
  refine codeAny_forLoop I ?_ sg.length (toI _ _ ⟨acc, sg, n, V, hb, hN, hz, Nat.le_refl _⟩)
  intro k s' hI
  refine hideP fun G9 hG9 => ?_
  obtain ⟨acc, sg, n, V, hb, hN, hz, hk⟩ := ofI _ _ hI
  refine hG9 ?_
  clear hG9 ofI hI
  refine GS.next G (by walk_at "om") hh V hit hia (by walk_at "om") (fun he s'' V' => ?_) (fun p r he t s'' V' => ?_)
  · subst he
    rw [bare_nil] at hb
    cases hb
    exact wpAny_execs_nil (hend s'' n V' rfl (by simpa [feeds] using hN))
  · subst he
    dsimp only
    have hN' : rcN n (p :: r) + feeds r = N := (feeds_rc n (p :: r)).trans hN
    refine hideP fun G9 hG9 => ?_
    obtain ⟨h, tk0, m, l, t0, rfl, F, m1, m2, m3, Nw, IL, hla⟩ := V'
    refine hG9 ?_
    clear hG9
    refine hideP fun G9 hG9 => ?_
    obtain ⟨hnd, T, t1, U, pm, ctv, cob, oc, vs, tq, k1, k2, rfl, hc, hoc, hq⟩ := IL
    refine hG9 ?_
    clear hG9
    have XK := G.k
    obtain ⟨me, TT⟩ := G.t
    have eb := Eq.refl (forBody bareFor)
    conv at eb => rhs; whnf
    rw [eb]
    iterate 11 walk1
    have hw : (!(Builtin.Str.occurrences (Str.ofString "\n\t\r ") ⟨#[p.1]⟩ 0 (Str.ofString "\n\t\r ").length 1).isEmpty) = isWs p.1 := StrLaws.found_one _ _
    rw [hw]
    walk1
    by_cases hws : isWs p.1 = true
    · rw [if_pos hws]
      rw [bare_ws hws] at hb
      cases hb
      (with_reducible rename Fr _ _ _ _ => F2)
      (with_reducible rename News _ _ _ _ => N2)
      iterate 4 walk1
      exact hret _ t0 _ ⟨_, _, _, _, _, rfl, F2, look_ne (by decide) m1, look_ne (by decide) m2, look_ne (by decide) m3, N2, IsLex.of hnd hc hoc hq, hla⟩ hN'
    · rw [if_neg hws]
      iterate 8 walk1
      by_cases h92 : p.1 = 92
      · rw [bare_esc hws h92] at hb
        rw [if_pos (by rw [h92]; rfl)]
        iterate 7 walk1
        (with_reducible rename Fr _ _ _ _ => F2)
        (with_reducible rename News _ _ _ _ => N2)
        have IL2 : IsLex w.params X (rcN n (p :: r)) pend r _ := IsLex.of (T := T) (t1 := t1) (U := U) (pm := pm) (ctv := ctv) (k1 := k1) (k2 := k2) hnd hc hoc hq
        refine wpAny_call (readchar_spec G (by exact F2.keep) (by walk_at "om") IL2 (Mine.News.led fun p hp => N2 p (.tail _ (.tail _ hp))) (by simp at hz ⊢; walk_at "om") fun h' tk' t' LB => ?_)
        obtain ⟨l2, IL3, hm2, F3, N3⟩ := LexBack.news (pre := [(it, citObj (.ref q) ts), (q, methodObj (.ref 73) (.ref X.lx))]) LB F2 N2 (by
          intro a ha hm
          have := hia _ (hla ▸ hm)
          simp only [List.mem_cons, List.not_mem_nil, or_false] at ha
          rcases ha with rfl | rfl
          · exact this.1 rfl
          · exact this.2 rfl)
        clear F2 N2
        iterate 7 walk1
        refine SB.iadd (fun t' k' => ?_) (by have := rcV_len r; simp only [List.length_cons] at hz; show acc.toArray.size + (rcV r).cps.size ≤ _; rw [List.size_toArray, ← Array.length_toList, sizeLine_eq]; walk_at "om")
        rw [str_app]
        iterate 2 walk1
        (with_reducible rename Fr _ _ _ _ => F4)
        (with_reducible rename News _ _ _ _ => N4)
        have := rcV_len r
        have hf := feeds_rc (rcN n (p :: r)) r
        simp only [List.length_cons] at hz hk
        exact ⟨r.tail.length, by walk_at "om", toI _ _ ⟨_, _, _, ⟨_, _, _, _, _, rfl, F4, (by repeat (first | assumption | exact look_eq | refine look_ne (by decide) ?_)), (by repeat (first | assumption | exact look_eq | refine look_ne (by decide) ?_)), (by repeat (first | assumption | exact look_eq | refine look_ne (by decide) ?_)), N4, IL3, hm2.trans hla⟩, hb, by walk_at "om", by rw [List.length_append]; walk_at "om", Nat.le_refl _⟩⟩
      · rw [bare_in hws h92] at hb
        rw [if_neg (by intro e; exact h92 (by have := congrArg (fun x : Str => x.cps.toList) (eq_of_beq e); exact List.head_eq_of_cons_eq this))]
        iterate 7 walk1
        refine SB.iadd (fun t' k' => ?_) (by simp only [List.length_cons] at hz; show acc.toArray.size + 1 ≤ _; rw [List.size_toArray, sizeLine_eq]; walk_at "om")
        rw [str_app]
        iterate 2 walk1
        (with_reducible rename Fr _ _ _ _ => F4)
        (with_reducible rename News _ _ _ _ => N4)
        simp only [List.length_cons] at hz hk
        exact ⟨r.length, by walk_at "om", toI _ _ ⟨_, _, _, ⟨_, _, _, _, _, rfl, F4, (by repeat (first | assumption | exact look_eq | refine look_ne (by decide) ?_)), (by repeat (first | assumption | exact look_eq | refine look_ne (by decide) ?_)), (by repeat (first | assumption | exact look_eq | refine look_ne (by decide) ?_)), N4, IsLex.of hnd hc hoc hq, hla⟩, hb, hN', by rw [List.length_append, List.length_singleton]; walk_at "om", Nat.le_refl _⟩⟩
end
end
theorem Again.at8 {M : Model} {A : Around} {env : Env} {Q : Flow → Shared → Prop} {E : Value → Shared → Prop} {s : Shared} (h : Q .next s) : wpAny M A (execs [] env) Q E s := by w_top off; walk1; exact h
section
set_option maxRecDepth 100000
section
variable {w : World} {mg mb : Str → Option Value} {g : Heap} {A : Around} {R : Result → Shared → Prop} {s s' : Shared} {E : Value → Shared → Prop}
set_option maxHeartbeats 2000000
theorem quoted_nil (acc : List Nat) : quoted [] acc = (acc, []) := rfl
theorem quoted_q {p : Nat × Tok} {r : List (Nat × Tok)} {acc : List Nat} (h : p.1 = 34) : quoted (p :: r) acc = (acc, r) := by
  rw [quoted_cons, if_pos h]
theorem quoted_esc {p : Nat × Tok} {r : List (Nat × Tok)} {acc : List Nat} (h : p.1 ≠ 34) (h2 : p.1 = 92) : quoted (p :: r) acc = quoted r.tail (acc ++ (rcV r).cps.toList) := by
  rw [quoted_cons, if_neg h, if_pos h2]
theorem quoted_in {p : Nat × Tok} {r : List (Nat × Tok)} {acc : List Nat} (h : p.1 ≠ 34) (h2 : p.1 ≠ 92) : quoted (p :: r) acc = quoted r (acc ++ [p.1]) := by
  rw [quoted_cons, if_neg h, if_neg h2]
theorem quoted_loop (G : Gnd w mg mb g) (hroom : A.depth < 780) (hh : A.handled = none) {X : LX} {L it q : Addr} {as : List Addr} {pend : List (Str × Tok)} {ts : Tok} {px : Pos} {N : Int} {tk : List Nat} {rest : List (Nat × Tok)}
    (hit : @Ne Nat it q) (hia : ∀ a ∈ as, @Ne Nat a it ∧ @Ne Nat a q)
    (hret : ∀ s'' t n, GS w.params g L X it q as pend s (citObj (.ref q) ts) tk rest n s'' → n + feeds rest = N → R (.ok (.ret (.str ⟨tk.toArray⟩ t))) s'')
    (hend : ∀ s'' n, GS w.params g L X it q as pend s citEnd tk [] n s'' → rest = [] → n = N → R (.ok .next) s'')
    {acc : List Nat} {sg : List (Nat × Tok)} {n : Int} (V : GS w.params g L X it q as pend s (citObj (.ref q) ts) acc sg n s') (hb : quoted sg acc = (tk, rest)) (hN : n + feeds sg = N) (hz : acc.length + sg.length ≤ 1000000) :
    codeAny (model PG w) A (.forLoop (.Name "ch" px) (.ref it) (forBody quoFor) [] (gtEnv L)) R s' := by
  refine hideI (fun k s' => ∃ acc sg n, GS w.params g L X it q as pend s (citObj (.ref q) ts) acc sg n s' ∧ quoted sg acc = (tk, rest) ∧ n + feeds sg = N ∧ acc.length + sg.length ≤ 1000000 ∧ sg.length ≤ k) fun I toI ofI => ?_
  refine codeAny_forLoop I ?_ sg.length (toI _ _ ⟨acc, sg, n, V, hb, hN, hz, Nat.le_refl _⟩)
  intro k s' hI
  refine hideP fun G9 hG9 => ?_
  obtain ⟨acc, sg, n, V, hb, hN, hz, hk⟩ := ofI _ _ hI
  refine hG9 ?_
  clear hG9 ofI hI
  refine GS.next G (by walk_at "om") hh V hit hia (by walk_at "om") (fun he s'' V' => ?_) (fun p r he t s'' V' => ?_)
  · subst he
    rw [quoted_nil] at hb
    cases hb
    exact wpAny_execs_nil (hend s'' n V' rfl (by simpa [feeds] using hN))
  · subst he
    dsimp only
    have hN' : rcN n (p :: r) + feeds r = N := (feeds_rc n (p :: r)).trans hN
    refine hideP fun G9 hG9 => ?_
    obtain ⟨h, tk0, m, l, t0, rfl, F, m1, m2, m3, Nw, IL, hla⟩ := V'
    refine hG9 ?_
    clear hG9
    refine hideP fun G9 hG9 => ?_
    obtain ⟨hnd, T, t1, U, pm, ctv, cob, oc, vs, tq, k1, k2, rfl, hc, hoc, hq⟩ := IL
    refine hG9 ?_
    clear hG9
    have XK := G.k
    obtain ⟨me, TT⟩ := G.t
    have eb := Eq.refl (forBody quoFor)
    conv at eb => rhs; whnf
    rw [eb]
    iterate 10 walk1
    by_cases h34 : p.1 = 34
    · rw [if_pos (by rw [h34]; rfl)]
      rw [quoted_q h34] at hb
      cases hb
      (with_reducible rename Fr _ _ _ _ => F2)
      (with_reducible rename News _ _ _ _ => N2)
      iterate 4 walk1
      exact hret _ t0 _ ⟨_, _, _, _, _, rfl, F2, look_ne (by decide) m1, look_ne (by decide) m2, look_ne (by decide) m3, N2, IsLex.of hnd hc hoc hq, hla⟩ hN'
    · rw [if_neg (by intro e; exact h34 (by have := congrArg (fun x : Str => x.cps.toList) (eq_of_beq e); exact List.head_eq_of_cons_eq this))]
      iterate 8 walk1
      by_cases h92 : p.1 = 92
      · rw [quoted_esc h34 h92] at hb
        rw [if_pos (by rw [h92]; rfl)]
        iterate 7 walk1
        (with_reducible rename Fr _ _ _ _ => F2)
        (with_reducible rename News _ _ _ _ => N2)
        have IL2 : IsLex w.params X (rcN n (p :: r)) pend r _ := IsLex.of (T := T) (t1 := t1) (U := U) (pm := pm) (ctv := ctv) (k1 := k1) (k2 := k2) hnd hc hoc hq
        refine wpAny_call (readchar_spec G (by exact F2.keep) (by walk_at "om") IL2 (Mine.News.led fun p hp => N2 p (.tail _ (.tail _ hp))) (by simp at hz ⊢; walk_at "om") fun h' tk' t' LB => ?_)
        obtain ⟨l2, IL3, hm2, F3, N3⟩ := LexBack.news (pre := [(it, citObj (.ref q) ts), (q, methodObj (.ref 73) (.ref X.lx))]) LB F2 N2 (by
          intro a ha hm
          have := hia _ (hla ▸ hm)
          simp only [List.mem_cons, List.not_mem_nil, or_false] at ha
          rcases ha with rfl | rfl
          · exact this.1 rfl
          · exact this.2 rfl)
        clear F2 N2
        iterate 7 walk1
        refine SB.iadd (fun t' k' => ?_) (by have := rcV_len r; simp only [List.length_cons] at hz; show acc.toArray.size + (rcV r).cps.size ≤ _; rw [List.size_toArray, ← Array.length_toList, sizeLine_eq]; walk_at "om")
        rw [str_app]
        iterate 2 walk1
        (with_reducible rename Fr _ _ _ _ => F4)
        (with_reducible rename News _ _ _ _ => N4)
        have := rcV_len r
        have hf := feeds_rc (rcN n (p :: r)) r
        simp only [List.length_cons] at hz hk
        exact ⟨r.tail.length, by walk_at "om", toI _ _ ⟨_, _, _, ⟨_, _, _, _, _, rfl, F4, (by repeat (first | assumption | exact look_eq | refine look_ne (by decide) ?_)), (by repeat (first | assumption | exact look_eq | refine look_ne (by decide) ?_)), (by repeat (first | assumption | exact look_eq | refine look_ne (by decide) ?_)), N4, IL3, hm2.trans hla⟩, hb, by walk_at "om", by rw [List.length_append]; walk_at "om", Nat.le_refl _⟩⟩
      · rw [quoted_in h34 h92] at hb
        rw [if_neg (by intro e; exact h92 (by have := congrArg (fun x : Str => x.cps.toList) (eq_of_beq e); exact List.head_eq_of_cons_eq this))]
        iterate 7 walk1
        refine SB.iadd (fun t' k' => ?_) (by simp only [List.length_cons] at hz; show acc.toArray.size + 1 ≤ _; rw [List.size_toArray, sizeLine_eq]; walk_at "om")
        rw [str_app]
        iterate 2 walk1
        (with_reducible rename Fr _ _ _ _ => F4)
        (with_reducible rename News _ _ _ _ => N4)
        simp only [List.length_cons] at hz hk
        exact ⟨r.length, by walk_at "om", toI _ _ ⟨_, _, _, ⟨_, _, _, _, _, rfl, F4, (by repeat (first | assumption | exact look_eq | refine look_ne (by decide) ?_)), (by repeat (first | assumption | exact look_eq | refine look_ne (by decide) ?_)), (by repeat (first | assumption | exact look_eq | refine look_ne (by decide) ?_)), N4, IsLex.of hnd hc hoc hq, hla⟩, hb, hN', by rw [List.length_append, List.length_singleton]; walk_at "om", Nat.le_refl _⟩⟩
end
end
theorem Again.at9 {M : Model} {A : Around} {env : Env} {Q : Flow → Shared → Prop} {E : Value → Shared → Prop} {s : Shared} (h : Q .next s) : wpAny M A (execs [] env) Q E s := by w_top off; walk1; exact h
section
set_option maxRecDepth 100000
section
variable {w : World} {mg mb : Str → Option Value} {g h₀ : Heap} {A : Around} {R : Result → Shared → Prop} {s s' : Shared} {E : Value → Shared → Prop}
set_option maxHeartbeats 2000000
theorem word_nil : word [] = ([], []) := rfl
theorem word_cons (p : Nat × Tok) (r : List (Nat × Tok)) : word (p :: r) = if isWs p.1 = true then word r else if p.1 = 34 then quoted r [] else if p.1 = 92 then bare r.tail (rcV r).cps.toList else bare r [p.1] := rfl
theorem word_ws {p : Nat × Tok} {r : List (Nat × Tok)} (h : isWs p.1 = true) : word (p :: r) = word r := by
  rw [word_cons, if_pos h]
theorem word_q {p : Nat × Tok} {r : List (Nat × Tok)} (h : isWs p.1 ≠ true) (h2 : p.1 = 34) : word (p :: r) = quoted r [] := by
  rw [word_cons, if_neg h, if_pos h2]
theorem word_esc {p : Nat × Tok} {r : List (Nat × Tok)} (h : isWs p.1 ≠ true) (h2 : p.1 ≠ 34) (h3 : p.1 = 92) : word (p :: r) = bare r.tail (rcV r).cps.toList := by
  rw [word_cons, if_neg h, if_neg h2, if_pos h3]
theorem word_in {p : Nat × Tok} {r : List (Nat × Tok)} (h : isWs p.1 ≠ true) (h2 : p.1 ≠ 34) (h3 : p.1 ≠ 92) : word (p :: r) = bare r [p.1] := by
  rw [word_cons, if_neg h, if_neg h2, if_neg h3]
theorem one_ne {c : Nat} {x : Str} (h : x.cps.toList ≠ [c]) : ¬ ((Str.mk #[c] == x) = true) := fun e => h (by rw [← eq_of_beq e])
theorem word_loop (G : Gnd w mg mb g) (hroom : A.depth < 770) (hh : A.handled = none) {X : LX} {L it q : Addr} {as : List Addr} {pend : List (Str × Tok)} {ts : Tok} {px : Pos} {N : Int} {tw : List Nat} {rest : List (Nat × Tok)}
    (hit : @Ne Nat it q) (hia : ∀ a ∈ as, @Ne Nat a it ∧ @Ne Nat a q)
    (hret : ∀ s'' t n, GS w.params g L X it q as pend s (citObj (.ref q) ts) tw rest n s'' → n + feeds rest = N → R (.ok (.ret (.str ⟨tw.toArray⟩ t))) s'')
    (hend : ∀ s'' n, GS w.params g L X it q as pend s citEnd tw [] n s'' → rest = [] → n = N → R (.ok .next) s'')
    {sg : List (Nat × Tok)} {n : Int} (V : GS w.params g L X it q as pend s (citObj (.ref q) ts) [] sg n s') (hb : word sg = (tw, rest)) (hN : n + feeds sg = N) (hz : sg.length ≤ 900000) :
    codeAny (model PG w) A (.forLoop (.Name "ch" px) (.ref it) (forBody gtFor) [] (gtEnv L)) R s' := by
  refine hideI (fun k s' => (∃ sg n, GS w.params g L X it q as pend s (citObj (.ref q) ts) [] sg n s' ∧ word sg = (tw, rest) ∧ n + feeds sg = N ∧ sg.length ≤ 900000 ∧ sg.length + 1 ≤ k) ∨ (∃ n, GS w.params g L X it q as pend s citEnd tw [] n s' ∧ rest = [] ∧ n = N)) fun I toI ofI => ?_
  refine codeAny_forLoop I ?_ (sg.length + 1) (toI _ _ (.inl ⟨sg, n, V, hb, hN, hz, Nat.le_refl _⟩))
  intro k s' hI
  refine hideP fun G9 hG9 => ?_
  rcases ofI _ _ hI with ⟨sg, n, V, hb, hN, hz, hk⟩ | ⟨n, V, hr, hn⟩ <;> (refine hG9 ?_; clear hG9 ofI hI)
  · refine GS.next G (by walk_at "om") hh V hit hia (by walk_at "om") (fun he s'' V' => ?_) (fun p r he t s'' V' => ?_)
    · subst he
      rw [word_nil] at hb
      cases hb
      exact wpAny_execs_nil (hend s'' n V' rfl (by simpa [feeds] using hN))
    · subst he
      dsimp only
      have hN' : rcN n (p :: r) + feeds r = N := (feeds_rc n (p :: r)).trans hN
      refine hideP fun G9 hG9 => ?_
      obtain ⟨h, tk0, m, l, t0, rfl, F, m1, m2, m3, Nw, IL, hla⟩ := V'
      refine hG9 ?_
      clear hG9
      refine hideP fun G9 hG9 => ?_
      obtain ⟨hnd, T, t1, U, pm, ctv, cob, oc, vs, tq, k1, k2, rfl, hc, hoc, hq⟩ := IL
      refine hG9 ?_
      clear hG9
      have XK := G.k
      obtain ⟨me, TT⟩ := G.t
      have eb := Eq.refl (forBody gtFor)
      conv at eb => rhs; whnf
      rw [eb]
      iterate 11 walk1
      have hw : (!(Builtin.Str.occurrences (Str.ofString "\n\t\r ") ⟨#[p.1]⟩ 0 (Str.ofString "\n\t\r ").length 1).isEmpty) = isWs p.1 := StrLaws.found_one _ _
      rw [hw]
      walk1
      simp only [List.length_cons] at hz hk
      by_cases hws : isWs p.1 = true
      · rw [if_pos hws]
        rw [word_ws hws] at hb
        iterate 3 walk1
        (with_reducible rename Fr _ _ _ _ => F2)
        (with_reducible rename News _ _ _ _ => N2)
        exact ⟨r.length + 1, by walk_at "om", toI _ _ (.inl ⟨r, _, ⟨_, _, _, _, _, rfl, F2, (by repeat (first | assumption | exact look_eq | refine look_ne (by decide) ?_)), (by repeat (first | assumption | exact look_eq | refine look_ne (by decide) ?_)), (by repeat (first | assumption | exact look_eq | refine look_ne (by decide) ?_)), N2, IsLex.of hnd hc hoc hq, hla⟩, hb, hN', by walk_at "om", Nat.le_refl _⟩)⟩
      · rw [if_neg hws]
        iterate 9 walk1
        by_cases h34 : p.1 = 34
        · rw [if_pos (by rw [h34]; rfl)]
          rw [word_q hws h34] at hb
          iterate 2 walk1
          refine wpAny_For ?_
          walk1
          (with_reducible rename Fr _ _ _ _ => F2)
          (with_reducible rename News _ _ _ _ => N2)
          refine pyIter_cit (N2.get (by k_mem)) rfl ?_
          refine quoted_loop G (by walk_at "om") hh hit hia (tk := tw) (rest := rest) (N := N) (pend := pend) (s := s) (fun s'' t n V hn => ?_) (fun s'' n V hr hn => ?_) ⟨_, _, _, _, _, rfl, F2, (by repeat (first | assumption | exact look_eq | refine look_ne (by decide) ?_)), (by repeat (first | assumption | exact look_eq | refine look_ne (by decide) ?_)), (by repeat (first | assumption | exact look_eq | refine look_ne (by decide) ?_)), N2, IsLex.of hnd hc hoc hq, hla⟩ hb hN' (by show 0 + r.length ≤ _; walk_at "om")
          · exact hret s'' t n V hn
          · dsimp only
            iterate 2 walk1
            exact ⟨0, by walk_at "om", toI _ _ (.inr ⟨n, V, hr, hn⟩)⟩
        · rw [if_neg (one_ne (by intro e; exact h34 (List.head_eq_of_cons_eq e).symm))]
          iterate 8 walk1
          by_cases h92 : p.1 = 92
          · rw [if_pos (by rw [h92]; rfl)]
            rw [word_esc hws h34 h92] at hb
            iterate 7 walk1
            (with_reducible rename Fr _ _ _ _ => F2)
            (with_reducible rename News _ _ _ _ => N2)
            have IL2 : IsLex w.params X (rcN n (p :: r)) pend r _ := IsLex.of (T := T) (t1 := t1) (U := U) (pm := pm) (ctv := ctv) (k1 := k1) (k2 := k2) hnd hc hoc hq
            refine wpAny_call (readchar_spec G (by exact F2.keep) (by walk_at "om") IL2 (Mine.News.led fun p hp => N2 p (.tail _ (.tail _ hp))) (by walk_at "om") fun h' tk' t' LB => ?_)
            obtain ⟨l2, IL3, hm2, F3, N3⟩ := LexBack.news (pre := [(it, citObj (.ref q) ts), (q, methodObj (.ref 73) (.ref X.lx))]) LB F2 N2 (by
              intro a ha hm
              have := hia _ (hla ▸ hm)
              simp only [List.mem_cons, List.not_mem_nil, or_false] at ha
              rcases ha with rfl | rfl
              · exact this.1 rfl
              · exact this.2 rfl)
            clear F2 N2
            have hl := rcV_len r
            have hf := feeds_rc (rcN n (p :: r)) r
            iterate 6 walk1
            refine SB.iadd (fun t' k' => ?_) (by show 0 + (rcV r).cps.size ≤ _; rw [← Array.length_toList, sizeLine_eq]; walk_at "om")
            rw [str_app []]
            iterate 2 walk1
            refine wpAny_For ?_
            walk1
            (with_reducible rename Fr _ _ _ _ => F5)
            (with_reducible rename News _ _ _ _ => N5)
            refine pyIter_cit (N5.get (by k_mem)) rfl ?_
            refine bare_loop G (by walk_at "om") hh hit hia (tk := tw) (rest := rest) (N := N) (pend := pend) (s := s) (fun s'' t n V hn => ?_) (fun s'' n V hr hn => ?_) ⟨_, _, _, _, _, rfl, F5, (by repeat (first | assumption | exact look_eq | refine look_ne (by decide) ?_)), (by repeat (first | assumption | exact look_eq | refine look_ne (by decide) ?_)), (by repeat (first | assumption | exact look_eq | refine look_ne (by decide) ?_)), N5, IL3, hm2.trans hla⟩ hb (by walk_at "om") (by walk_at "om")
            · exact hret s'' t n V hn
            · dsimp only
              iterate 2 walk1
              exact ⟨0, by walk_at "om", toI _ _ (.inr ⟨n, V, hr, hn⟩)⟩
          · rw [if_neg (one_ne (by intro e; exact h92 (List.head_eq_of_cons_eq e).symm))]
            rw [word_in hws h34 h92] at hb
            iterate 6 walk1
            refine SB.iadd (fun t' k' => ?_) (by show 0 + 1 ≤ _; rw [sizeLine_eq]; walk_at "om")
            rw [str_app []]
            iterate 2 walk1
            refine wpAny_For ?_
            walk1
            (with_reducible rename Fr _ _ _ _ => F5)
            (with_reducible rename News _ _ _ _ => N5)
            refine pyIter_cit (N5.get (by k_mem)) rfl ?_
            refine bare_loop G (by walk_at "om") hh hit hia (tk := tw) (rest := rest) (N := N) (pend := pend) (s := s) (fun s'' t n V hn => ?_) (fun s'' n V hr hn => ?_) ⟨_, _, _, _, _, rfl, F5, (by repeat (first | assumption | exact look_eq | refine look_ne (by decide) ?_)), (by repeat (first | assumption | exact look_eq | refine look_ne (by decide) ?_)), (by repeat (first | assumption | exact look_eq | refine look_ne (by decide) ?_)), N5, IsLex.of hnd hc hoc hq, hla⟩ hb hN' (by show 1 + r.length ≤ _; walk_at "om")
            · exact hret s'' t n V hn
            · dsimp only
              iterate 2 walk1
              exact ⟨0, by walk_at "om", toI _ _ (.inr ⟨n, V, hr, hn⟩)⟩
  · refine hideP fun G9 hG9 => ?_
    obtain ⟨h, tk0, m, l, t0, rfl, F, m1, m2, m3, Nw, IL, hla⟩ := V
    refine hG9 ?_
    clear hG9
    have li := (Nw _ (List.Mem.head _))
    refine next_cit_end hh li.1 fun h' kk => wpAny_execs_nil (hend _ n ⟨h', _, m, l, t0, rfl, F.kept kk, m1, m2, m3, Nw.grown kk, IL, hla⟩ hr hn)
end
end
theorem Again.at10 {M : Model} {A : Around} {env : Env} {Q : Flow → Shared → Prop} {E : Value → Shared → Prop} {s : Shared} (h : Q .next s) : wpAny M A (execs [] env) Q E s := by w_top off; walk1; exact h
section
set_option maxRecDepth 100000
section
variable {w : World} {mg mb : Str → Option Value} {g h₀ : Heap} {A : Around} {R : Result → Shared → Prop} {s s' : Shared} {E : Value → Shared → Prop}
set_option maxHeartbeats 2000000
theorem iter2_news {L q : Addr} {f self : Value} {t : Tok} {m : Str → Option Value} {news : List (Addr × Obj)} {Q : Value → Shared → Prop} (F : Fr g L s.heap m) (N : News g L s.heap news) (hq : (q, methodObj f self) ∈ news)
    (h : ∀ it h', Fr g L h' m → News g L h' ((it, citObj (.ref q) t) :: news) → (∀ p ∈ news, p.1 < it) → Q (.ref it) { s with heap := h' }) : wpAny (model PG w) A (call (.builtin "iter") [.ref q, .str "" t]) Q E s := by
  refine call_iter2 (N _ hq).1 ?_
  obtain ⟨F3, N3, l3⟩ := ks_newsPush (s := s) (o := citObj (.ref q) t) F N rfl (Heap.get?_push_at rfl rfl) (fun b o e => Heap.get?_push_of_some _ e)
  exact h _ _ F3 N3 l3
theorem gettok (G : Gnd w mg mb h₀) (st : h₀.StaysIn s.heap) (hroom : A.depth < 760) (hh : A.handled = none) {X : LX} {n : Int} {signs : List (Nat × Tok)} {l : List (Addr × Obj)}
    (hl : IsLex w.params X n [] signs l) (hn : Led h₀ s.heap l) (hz : signs.length ≤ 900000)
    (h : ∀ h' tk t n', LexBack w.params X n' [] (word signs).2 l s.heap h' → n' + feeds (word signs).2 = n + feeds signs → R (.ok (.ret (.str ⟨(word signs).1.toArray⟩ t))) { s with heap := h', toks := tk }) :
    codeAny (model PG w) A (.call (.ref 80) ⟨[.ref X.lx], []⟩) R s := by
  have hl0 := hl
  refine hideP fun G9 hG9 => ?_
  obtain ⟨hnd, T, t1, U, pm, ctv, cob, oc, vs, tq, k1, k2, rfl, hc, hoc, hq⟩ := hl
  refine hG9 ?_
  clear hG9
  refine hideP fun G9 hG9 => ?_
  obtain ⟨o1, o2, o3, o4, o5, o6, o7, o8⟩ := id hnd
  refine hG9 ?_
  clear hG9
  refine enter G st (by with_unfolding_all rfl) (by with_unfolding_all rfl) (by show A.depth < 1000; walk_at "om") (BindsTo.of_eq (binds := [("self", .ref X.lx)]) rfl) (by exact locs rfl) _ hn ?_
  intro g L' h₁ tk I F N G'
  have XK := G'.k
  obtain ⟨me, TT⟩ := G'.t
  iterate 6 walk1
  refine wpAny_truthy_list (items := (strValues []).toArray) ⟨_, N.get (by k_mem), rfl, _, rfl⟩ (by decide) ?_
  rw [if_neg (by decide)]
  dsimp only
  iterate 12 walk1
  iterate 6 walk1
  (with_reducible rename News _ _ _ _ => N2)
  (with_reducible rename Fr _ _ _ _ => F2)
  (with_reducible rename _ ∧ _ => lts)
  refine iter2_news F2 N2 (.head _) fun it h2 F3 N3 lt3 => ?_
  iterate 3 walk1
  refine wpAny_For ?_
  walk1
  (with_reducible rename Fr _ _ _ _ => F2)
  (with_reducible rename News _ _ _ _ => N2)
  (with_reducible rename _ ∧ _ => lts)
  refine pyIter_cit (N2.get (by k_mem)) rfl ?_
  refine word_loop G' (by show A.depth + 1 < 770; walk_at "om") (by exact hh) (X := X) (L := L') (it := it) (pend := []) (tw := (word signs).1) (rest := (word signs).2) (N := n + feeds signs) (s := s) (sg := signs) (n := n) ?_ ?_ (fun s'' t n V hn => ?_) (fun s'' n V hr hn => ?_) ⟨_, _, _, _, _, rfl, F2, (by rfl), (by rfl), (by rfl), N2, IsLex.of hnd hc hoc hq, rfl⟩ rfl rfl hz
  · exact Nat.ne_of_gt (lt3 _ (.head _))
  · intro a ha
    simp only [List.map_cons, List.map_nil, List.mem_cons, List.not_mem_nil, or_false] at ha
    have l3 := lt3 _ (.head _)
    refine hideP fun G9 hG9 => ?_
    obtain ⟨b1, b2, b3, b4, b5, b6, b7, b8, b9⟩ := lts
    refine hG9 ?_
    clear hG9
    rcases ha with rfl | rfl | rfl | rfl | rfl | rfl | rfl | rfl | rfl <;> exact ⟨Nat.ne_of_lt (Nat.lt_trans (by assumption) l3), Nat.ne_of_lt (by assumption)⟩
  · refine hideP fun G9 hG9 => ?_
    obtain ⟨h', tk0, m, l, t0, rfl, F, m1, m2, m3, Nw, IL, hla⟩ := V
    refine hG9 ?_
    clear hG9
    exact h _ _ _ _ (LexBack.of (fun p hp => Nw p (.tail _ (.tail _ hp))) hla (hla ▸ I.keepBack F) IL) hn
  · refine hideP fun G9 hG9 => ?_
    obtain ⟨h', tk0, m, l, t0, rfl, F, m1, m2, m3, Nw, IL, hla⟩ := V
    refine hG9 ?_
    clear hG9
    dsimp only
    iterate 3 walk1
    refine h _ _ _ _ (LexBack.of (fun p hp => Nw p (.tail _ (.tail _ hp))) hla (hla ▸ I.keepBack F) (hr ▸ IL)) ?_
    rw [hr, hn]
    simp [feeds]
end
end
theorem Again.at11 {M : Model} {A : Around} {env : Env} {Q : Flow → Shared → Prop} {E : Value → Shared → Prop} {s : Shared} (h : Q .next s) : wpAny M A (execs [] env) Q E s := by w_top off; walk1; exact h
section
set_option maxRecDepth 100000
noncomputable def CellsOk (cs : List Value) : Prop := ∃ f : Nat → Int, ∃ t : Nat → Tok, cs = (List.range 8).map (fun i => .int (f i) (t i)) ∧ ∀ i, 0 ≤ f i
theorem ki_set_ok {f : Nat → Int} {t : Nat → Tok} {x : Int} {u : Tok} : ∀ {j : Nat}, j < 8 → ki_setL ((List.range 8).map (fun i => Value.int (f i) (t i))) j (.int x u) = some ((List.range 8).map (fun i => Value.int (if i = j then x else f i) (if i = j then u else t i)))
  | 0, _ | 1, _ | 2, _ | 3, _ | 4, _ | 5, _ | 6, _ | 7, _ => rfl
  | j + 8, h => absurd h (by walk_at "om")
inductive J3 (sc c : Addr) (i : Nat) (m' : Str → Option Value) (news' : List (Addr × Obj)) : Prop
  | mk (m1 : m' "script" = some (.ref sc)) (m2 : m' "cells" = some (.ref c)) (cs' : List Value) (k' : Nat) (e : news' = [(c, listOf cs'.toArray k')]) (ok : CellsOk cs')
section
variable {w : World} {mg mb : Str → Option Value} {g h₀ : Heap} {A : Around} {R : Result → Shared → Prop} {s s' : Shared} {E : Value → Shared → Prop}
set_option maxHeartbeats 2000000
theorem cells_spec (G : Gnd w mg mb h₀) (st : h₀.StaysIn s.heap) (hroom : A.depth < 900) (hh : A.handled = none) {sc c : Addr} {vs : List Value} {ns : List Int} {k : Nat} {cs : List Value}
   (hs : h₀.IsList sc vs.toArray) (hi : IntsAre vs ns) (h63 : ns.length ≤ 63) (hn : Led h₀ s.heap [(c, listOf cs.toArray k)]) (hcs : CellsOk cs)
   (h : ∀ h' tk (cs' : List Value) k', Keep [c] s.heap h' → h'.get? c = some (listOf cs'.toArray k') → CellsOk cs' → R (.ok (.ret (.ref c))) { s with heap := h', toks := tk }) :
   codeAny (model PG w) A (.call (.ref 118) ⟨[.ref sc, .ref c], []⟩) R s := by
  refine enter G st (by with_unfolding_all rfl) (by with_unfolding_all rfl) (by show A.depth < 1000; walk_at "om") (BindsTo.of_eq (binds := [("script", .ref sc), ("cells", .ref c)]) rfl) (by exact locs rfl) _ hn ?_
  intro g L' h₁ tk I F N G'
  have XK := G'.k
  obtain ⟨me, TT⟩ := G'.t
  have hs' : g.IsList sc vs.toArray := hs.at fun o e => I.base _ _ e
  iterate 1 walk1
  refine wpAny_For ?_
  have e1 := hi.length
  iterate 12 walk1
  (with_reducible rename Fr _ _ _ _ => F1)
  (with_reducible rename News _ _ _ _ => N1)
  refine range1_iter F1 N1 (by walk_at "om") (by walk_at "om") fun it h2 tk2 F2 N2 l2 => ?_
  have l3 : @LT.lt Nat _ c it := l2 _ (.head _)
  refine loopRange (by exact hh) (x0 := 0) (c := 1) (n := ns.length) (J3 sc c) F2 N2 ⟨rfl, rfl, cs, k, rfl, hcs⟩ ?_ ?_ ?_
  · rintro i m' news' ⟨_, _, cs', k', rfl, _⟩ p hp
    cases hp with
    | head => exact Nat.ne_of_lt l3
    | tail _ hp => cases hp
  · rintro i t m' news' h' tk' Qt Et hT hE hlt ⟨m1, m2, cs', k', rfl, hcs'⟩ F' N'
    refine hideP fun G9 hG9 => ?_
    obtain ⟨f, tf, rfl, hf⟩ := hcs'
    refine hG9 ?_
    clear hG9
    iterate 11 walk1
    (with_reducible rename Fr _ _ _ _ => F3)
    (with_reducible rename News _ _ _ _ => N3)
    refine call_len_list (items := ((List.range 8).map (fun i => Value.int (f i) (tf i))).toArray) ⟨_, N3.get (by k_mem), rfl, _, rfl⟩ (by simp) ?_
    rw [show ((List.range 8).map (fun i => Value.int (f i) (tf i))).toArray.size = 8 from by simp]
    refine mod_int (by decide) ?_
    have hm : (0 + (i:Int) * 1).fmod ((8 : Nat) : Int) = ((i % 8 : Nat) : Int) := by
      show (0 + (i:Int) * 1).fmod 8 = _
      rw [Int.fmod_eq_emod_of_nonneg _ (by decide)]; walk_at "om"
    rw [hm]
    refine wpAny_getItem_list (items := ((List.range 8).map (fun i => Value.int (f i) (tf i))).toArray) ⟨_, N3.get (by k_mem), rfl, _, rfl⟩ (by walk_at "om") (by walk_at "om") (x := .int (f (i % 8)) (tf (i % 8))) (by
      show _[(((i % 8 : Nat) : Int)).toNat]? = _
      rw [Int.toNat_natCast, List.getElem?_toArray, List.getElem?_map, List.getElem?_range (by walk_at "om")]; rfl) ?_
    iterate 8 walk1
    (with_reducible rename Fr _ _ _ _ => F4)
    (with_reducible rename News _ _ _ _ => N4)
    have e8 := fun u => ki_set_ok (f := f) (t := tf) (x := (f (i % 8) + (ns.getD (0 + (i : Int) * 1).toNat 0).fmod 1000000)) (u := u) (Nat.mod_lt i (by decide : 0 < 8))
    refine ki_set F4 N4 (by walk_at "om") (by walk_at "om") (e8 _) (.tail (by exact Nat.ne_of_gt l3) (.head (fun p hp => by cases hp))) fun h9 F9 N9 => ?_
    iterate 2 walk1
    exact hT _ _ ⟨h9, _, _, _, rfl, F9, N9, by repeat (first | assumption | exact lk_eq | refine lk_ne (by decide) ?_), by repeat (first | assumption | exact lk_eq | refine lk_ne (by decide) ?_), _, _, rfl, _, _, rfl, fun k => by
      split
      · have := Int.fmod_nonneg_of_pos (ns.getD (0 + (i : Int) * 1).toNat 0) (show (0:Int) < 1000000 by decide)
        have := hf (i % 8)
        walk_at "om"
      · exact hf k⟩
  · rintro h9 tk9 m' news' ⟨m1, m2, cs', k', rfl, hcs'⟩ F9 N9
    dsimp only
    iterate 3 walk1
    exact h _ _ _ _ (I.keepBack F9) (N9.get (.head _)) hcs'
end
end
theorem Again.at12 {M : Model} {A : Around} {env : Env} {Q : Flow → Shared → Prop} {E : Value → Shared → Prop} {s : Shared} (h : Q .next s) : wpAny M A (execs [] env) Q E s := by w_top off; walk1; exact h
section
set_option maxRecDepth 100000
section
variable {prog : Program} {w : World} {g : Heap} {A : Around} {R : Result → Shared → Prop} {s : Shared} {E : Value → Shared → Prop} {L : Addr} {m : Str → Option Value} {news : List (Addr × Obj)}
theorem rangeDown_iter {t u v : Tok} {n : Int} {Q : Value → Shared → Prop} (hn : n = 7) (F : Fr g L s.heap m) (N : News g L s.heap news)
    (h : ∀ it h' tk, Fr g L h' m → News g L h' ((it, riObj 7 8 (-1)) :: news) → (∀ p ∈ news, p.1 < it) → Q (.ref it) { s with heap := h', toks := tk }) :
    wpAny (model prog w) A (call (.type "range") [.int n t, .int (-1) u, .int (-1) v]) (fun x s₁ => wpAny (model prog w) A (pyIter x) Q E s₁) E s := by
  subst hn
  refine range3_rows F N (by decide) (fun h' tk t₁ u₁ v₁ hr F' N' k => ?_)
  exact iterRange F' N' hr (by decide) fun it h2 F2 N2 l2 => h it h2 tk F2 (by rw [show Builtin.Range.rangeSize 7 (-1) (-1) = 8 from by decide] at N2; exact N2) l2
end
noncomputable def defB (s : Stmt) : List Stmt := stB s
noncomputable def defS (s : Stmt) : Scope := (stP s).2.2.2.2
noncomputable def pgDef : Stmt := (PySem.Challenge.rw_sl0005_01.row.prog.main.body).getD 16 (.Pass default)
noncomputable abbrev pgEnv (L : Addr) : Env := envOf "_law_page" (defS pgDef) L 130 (.ref 129)
noncomputable def endOf (f : Nat → Int) (k : Nat) : List Nat := if (f k / 8 % 3) = 0 then [10] else if (f k / 8 % 3) = 1 then [13] else [13, 10]
noncomputable def bossOf (f : Nat → Int) (k : Nat) : Nat := (f k % ((k : Int) + 1)).toNat
theorem bossOf_le (f : Nat → Int) (k : Nat) : bossOf f k ≤ k := by
  unfold bossOf
  have := Int.emod_lt_of_pos (f k) (show (0 : Int) < (k : Int) + 1 by (first | lia | omega))
  (first | lia | omega)
theorem succ_ne (k : Nat) : (k : Int) + 1 ≠ 0 := by (first | lia | omega)
theorem fmod_boss (f : Nat → Int) (k : Nat) : (f k).fmod ((k : Int) + 1) = ((bossOf f k : Nat) : Int) := by
  rw [Int.fmod_eq_emod_of_nonneg _ (by (first | lia | omega)), bossOf, Int.toNat_of_nonneg (Int.emod_nonneg _ (succ_ne k))]
theorem lt63 {k : Nat} (h : k < 8) : (k : Int) < 2 ^ 63 := by (first | lia | omega)
theorem mod3 (x : Int) : 0 ≤ x % 3 ∧ x % 3 < 3 := ⟨Int.emod_nonneg _ (by decide), Int.emod_lt_of_pos _ (by decide)⟩
theorem mod3b (x : Int) : x % 3 < 2 ^ 63 := Int.lt_trans (mod3 x).2 (by decide)
noncomputable def pgStep (f : Nat → Int) (k : Nat) (S : (Nat → List Nat) × List Nat) : (Nat → List Nat) × List Nat :=
  if bossOf f k = k then (S.1, S.2 ++ (S.1 k ++ endOf f k)) else (fun j => if j = bossOf f k then S.1 j ++ (endOf f k ++ quote (S.1 k)) else S.1 j, S.2)
noncomputable def pgSt (f : Nat → Int) (S : (Nat → List Nat) × List Nat) : Nat → (Nat → List Nat) × List Nat
  | 0 => S
  | i + 1 => pgStep f (7 - i) (pgSt f S i)
theorem pgSt_zero (f : Nat → Int) (S : (Nat → List Nat) × List Nat) : pgSt f S 0 = S := rfl
theorem pgSt_succ (f : Nat → Int) (S : (Nat → List Nat) × List Nat) (i : Nat) : pgSt f S (i + 1) = pgStep f (7 - i) (pgSt f S i) := rfl
noncomputable def pgTail : List Nat := [13, 46, 13, 34, 92, 34, 32, 34, 9, 35, 11, 46, 32, 92, 97]
inductive J5 (c nl pg : Addr) (f : Nat → Int) (tf : Nat → Tok) (S : (Nat → List Nat) × List Nat) (k kn : Nat) (nm : List (Str × Tok)) (i : Nat) (m' : Str → Option Value) (news' : List (Addr × Obj)) : Prop
  | mk (m1 : m' "cells" = some (.ref c)) (m3 : m' "pages" = some (.ref pg)) (t : Tok) (m4 : m' "whole" = some (.str ⟨(pgSt f S i).2.toArray⟩ t)) (ps : List (Str × Tok)) (kp : Nat) (hps : ps.map (fun p => p.1.cps.toList) = (List.range 8).map (pgSt f S i).1) (e : news' = [(pg, listOf (strValues ps).toArray kp), (c, listOf ((List.range 8).map (fun i => .int (f i) (tf i))).toArray k), (nl, listOf (strValues nm).toArray kn)])
section
variable {w : World} {mg mb : Str → Option Value} {g h₀ : Heap} {A : Around} {R : Result → Shared → Prop} {s s' : Shared} {E : Value → Shared → Prop} {Q : Flow → Shared → Prop}
set_option maxHeartbeats 2000000
theorem str_app2 (a : List Nat) (y : Str) : (Str.mk a.toArray) ++ y = Str.mk (a ++ y.cps.toList).toArray := by
  apply Str.ext'
  rw [Str.cps_append]
  apply Array.toList_inj.mp
  simp
theorem str_app3 (x : Str) (e : List Nat) : (x ++ (⟨e.toArray⟩ : Str)).cps.toList = x.cps.toList ++ e := by
  show (x.cps ++ e.toArray).toList = _
  simp
theorem ki_setL_ok : ∀ {l : List Value} {k : Nat} {v : Value}, k < l.length → ki_setL l k v = some (l.set k v)
  | [], _, _, h => absurd h (Nat.not_lt_zero _)
  | _ :: _, 0, _, _ => rfl
  | x :: r, k + 1, v, h => by
    unfold ki_setL
    rw [ki_setL_ok (Nat.lt_of_succ_lt_succ h)]
    rfl
theorem page_tail (G : Gnd w mg mb g) (hroom : A.depth < 780) (hh : A.handled = none) {L c nl pg : Addr} {k kn kp : Nat} {f : Nat → Int} {tf : Nat → Tok} {nm ps : List (Str × Tok)} {m : Str → Option Value} {S : (Nat → List Nat) × List Nat}
   (F : Fr g L s.heap m) (N : News g L s.heap [(pg, listOf (strValues ps).toArray kp), (c, listOf ((List.range 8).map (fun i => .int (f i) (tf i))).toArray k), (nl, listOf (strValues nm).toArray kn)])
   (o1 : @LT.lt Nat _ c pg) (o2 : @LT.lt Nat _ nl pg) (o3 : @Ne Nat c nl) (hf : ∀ i, 0 ≤ f i) (m1 : m "cells" = some (.ref c)) (m3 : m "pages" = some (.ref pg)) (hS : S.2 = []) (hps : ps.map (fun p => p.1.cps.toList) = (List.range 8).map S.1)
   (hb : ∀ i ≤ 8, (∀ j < 8, ((pgSt f S i).1 j).length ≤ 100000) ∧ (pgSt f S i).2.length ≤ 100000)
   (h : ∀ h' tk t y L', Fr g L h' (L' : Str → Option Value) → News g L h' [(c, listOf ((List.range 8).map (fun i => .int (f i) (tf i))).toArray k), (nl, listOf (strValues nm).toArray kn)] → y.toList = quote ((pgSt f S 8).2 ++ pgTail) → Q (.ret (.str ⟨y⟩ t)) { s with heap := h', toks := tk }) :
   wpAny (model PG w) A (execs ((defB pgDef).drop 2) (pgEnv L)) Q E s := by
  have XK := G.k
  obtain ⟨me, TT⟩ := G.t
  have eb := Eq.refl ((defB pgDef).drop 2)
  conv at eb => rhs; whnf
  rw [eb]
  iterate 5 walk1
  refine wpAny_For ?_
  iterate 7 walk1
  iterate 4 walk1
  (with_reducible rename Fr _ _ _ _ => F1)
  (with_reducible rename News _ _ _ _ => N1)
  have hl8 : ps.length = 8 := by have := congrArg List.length hps; simpa using this
  refine call_len_list (items := (strValues ps).toArray) ⟨_, N1.get (by k_mem), rfl, _, rfl⟩ (by simp [strValues]; walk_at "om") ?_
  rw [show (strValues ps).toArray.size = 8 from by simp [strValues, hl8]]
  iterate 11 walk1
  (with_reducible rename Fr _ _ _ _ => F1)
  (with_reducible rename News _ _ _ _ => N1)
  refine rangeDown_iter (by rfl) F1 N1 fun it h2 tk2 F2 N2 l2 => ?_
  have lp : @LT.lt Nat _ pg it := l2 _ (.head _)
  refine loopRange (by exact hh) (x0 := 7) (c := -1) (n := 8) (J5 c nl pg f tf S k kn nm) F2 N2 ⟨lk_ne (by decide) m1, lk_ne (by decide) m3, _, by show (if _ then _ else _) = _; rw [if_pos rfl, pgSt_zero, hS]; rfl, ps, kp, hps, rfl⟩ ?_ ?_ ?_
  · rintro i m' news' ⟨_, _, _, _, ps, kp, _, rfl⟩ p hp
    exact consP (P := fun p => p.1 ≠ it) (Nat.ne_of_lt (show pg < it from l2 (_, _) (.head _))) (consP (Nat.ne_of_lt (show c < it from l2 (_, _) (.tail _ (.head _)))) (consP (Nat.ne_of_lt (show nl < it from l2 (_, _) (.tail _ (.tail _ (.head _))))) nilP)) p hp
  · rintro i t m' news' h' tk' Qt Et hT hE hlt ⟨m1, m3, tw, m4, ps, kp, hps, rfl⟩ F' N'
    have hk : (7 : Int) + (i : Int) * (-1) = ((7 - i : Nat) : Int) := by walk_at "om"
    rw [hk] at F'
    have hk0 : (7 - i : Nat) < 8 := by walk_at "om"
    obtain ⟨kk, hkk⟩ : ∃ kk, kk = 7 - i := ⟨_, rfl⟩
    rw [← hkk] at F' hk0
    have hS1 : pgSt f S (i + 1) = pgStep f kk (pgSt f S i) := by rw [pgSt_succ, hkk]
    clear hkk hk
    have hcell : ((List.range 8).map (fun i => Value.int (f i) (tf i)))[kk]? = some (.int (f kk) (tf kk)) := by
      rw [List.getElem?_map, List.getElem?_range hk0]; rfl
    iterate 17 walk1
    (with_reducible rename News _ _ _ _ => N4)
    refine item_litK (vs := (List.range 8).map (fun i => Value.int (f i) (tf i))) ⟨_, N4.get (by k_mem), rfl, _, rfl⟩ (Int.natCast_nonneg _) (lt63 hk0) (v := .int (f kk) (tf kk)) (by rw [Int.toNat_natCast]; exact hcell) ?_
    iterate 4 walk1
    have hidx : ((f kk).fdiv 8).fmod 3 = f kk / 8 % 3 := by
      rw [Int.fdiv_eq_ediv_of_nonneg _ (by decide), Int.fmod_eq_emod_of_nonneg _ (by decide)]
    rw [hidx]
    (with_reducible rename News _ _ _ _ => N4)
    have h3 := mod3 (f kk / 8)
    have hend : ∀ t0 t1 t2, ∃ t, [Value.str (Str.ofString "\n") t0, Value.str (Str.ofString "\r") t1, Value.str (Str.ofString "\r\n") t2][(f kk / 8 % 3).toNat]? = some (.str ⟨(endOf f kk).toArray⟩ t) := by
      intro t0 t1 t2
      unfold endOf
      by_cases e0 : f kk / 8 % 3 = 0
      · rw [if_pos e0, e0]; exact ⟨t0, rfl⟩
      · by_cases e1 : f kk / 8 % 3 = 1
        · rw [if_neg e0, if_pos e1, e1]; exact ⟨t1, rfl⟩
        · rw [if_neg e0, if_neg e1, show f kk / 8 % 3 = 2 by walk_at "om"]; exact ⟨t2, rfl⟩
    have hel : (endOf f kk).length ≤ 2 := by
      unfold endOf
      split
      · decide
      · split <;> decide
    obtain ⟨te, hend⟩ := hend _ _ _
    refine item_litK (vs := _) ⟨_, N4.get (by k_mem), rfl, _, rfl⟩ h3.1 (mod3b _) hend ?_
    iterate 8 walk1
    (with_reducible rename News _ _ _ _ => N4)
    refine item_litK (vs := (List.range 8).map (fun i => Value.int (f i) (tf i))) ⟨_, N4.get (by k_mem), rfl, _, rfl⟩ (Int.natCast_nonneg _) (lt63 hk0) (v := .int (f kk) (tf kk)) (by rw [Int.toNat_natCast]; exact hcell) ?_
    iterate 4 walk1
    refine mod_int (succ_ne kk) ?_
    have hbo := fmod_boss f kk
    have hbl := bossOf_le f kk
    have hb8 : bossOf f kk < 8 := Nat.lt_of_le_of_lt hbl hk0
    rw [hbo]
    iterate 8 walk1
    obtain ⟨hb1, hb2⟩ := hb i (Nat.le_of_lt hlt)
    have hl8' : ps.length = 8 := by have := congrArg List.length hps; simpa using this
    have hpj : ∀ j < 8, ∃ x t, ps[j]? = some (x, t) ∧ x.cps.toList = (pgSt f S i).1 j ∧ (strValues ps)[j]? = some (.str x t) ∧ x.cps.size ≤ 100000 := by
      intro j hj
      have e := congrArg (·[j]?) hps
      simp only [List.getElem?_map, List.getElem?_range hj, Option.map_some, Option.map_eq_some_iff] at e
      obtain ⟨p, e1, e2⟩ := e
      refine ⟨p.1, p.2, e1, e2, by simp [strValues, e1], ?_⟩
      have := hb1 j hj
      rw [← e2, Array.length_toList] at this
      exact this
    refine hideP fun G9 hG9 => ?_
    obtain ⟨xk, tk5, hx1, hx2, hx3, hx4⟩ := hpj kk hk0
    refine hG9 ?_
    clear hG9
    have hel2 : (Str.mk (endOf f kk).toArray).cps.size ≤ 2 := by rw [List.size_toArray]; exact hel
    by_cases hbk : bossOf f kk = kk
    · rw [if_pos (by rw [hbk]; exact beq_self_eq_true _)]
      iterate 8 walk1
      (with_reducible rename News _ _ _ _ => N4)
      refine item_litK (vs := strValues ps) ⟨_, N4.get (by k_mem), rfl, _, rfl⟩ (Int.natCast_nonneg _) (lt63 hk0) (v := .str xk tk5) (by rw [Int.toNat_natCast]; exact hx3) ?_
      iterate 1 walk1
      refine SB.add (fun t' k' => ?_) (by show xk.cps.size + (Str.mk (endOf f kk).toArray).cps.size ≤ _; rw [sizeLine_eq]; walk_at "om")
      refine SB.iadd (fun t'' k'' => ?_) (by
        show (Str.mk (pgSt f S i).2.toArray).cps.size + (xk ++ Str.mk (endOf f kk).toArray).cps.size ≤ _
        rw [Str.cps_append, Array.size_append, List.size_toArray, sizeLine_eq]; walk_at "om")
      rw [str_app2, str_app3, hx2]
      iterate 3 walk1
      (with_reducible rename News _ _ _ _ => N5)
      (with_reducible rename Fr _ _ _ _ => F5)
      have hst : pgStep f kk (pgSt f S i) = ((pgSt f S i).1, (pgSt f S i).2 ++ ((pgSt f S i).1 kk ++ endOf f kk)) := by rw [pgStep, if_pos hbk]
      refine hT _ _ ⟨_, _, _, _, rfl, F5, List.forall_mem_cons.mpr ⟨N5 _ (by k_mem), List.forall_mem_cons.mpr ⟨N5 _ (by k_mem), List.forall_mem_cons.mpr ⟨N5 _ (by k_mem), List.forall_mem_cons.mpr ⟨N5 _ (by k_mem), List.forall_mem_nil _⟩⟩⟩⟩, ?_, ?_, t'', ?_, ps, _, ?_, rfl⟩
      · repeat (first | assumption | exact lk_eq | refine lk_ne (by decide) ?_)
      · repeat (first | assumption | exact lk_eq | refine lk_ne (by decide) ?_)
      · rw [hS1, hst]
        exact lk_eq
      · rw [hS1, hst]; exact hps
    · rw [if_neg (by rw [beq_iff_eq]; walk_at "om")]
      refine hideP fun G9 hG9 => ?_
      obtain ⟨xb, tb, hy1, hy2, hy3, hy4⟩ := hpj (bossOf f kk) hb8
      refine hG9 ?_
      clear hG9
      have hst : pgStep f kk (pgSt f S i) = (fun j => if j = bossOf f kk then (pgSt f S i).1 j ++ (endOf f kk ++ quote ((pgSt f S i).1 kk)) else (pgSt f S i).1 j, (pgSt f S i).2) := by rw [pgStep, if_neg hbk]
      iterate 4 walk1
      (with_reducible rename News _ _ _ _ => N4)
      refine wpAny_getItem_list (items := (strValues ps).toArray) ⟨_, N4.get (by k_mem), rfl, _, rfl⟩ (Int.natCast_nonneg _) (lt63 hb8) (x := .str xb tb) (by rw [Int.toNat_natCast, List.getElem?_toArray]; exact hy3) ?_
      iterate 9 walk1
      refine item_litK (vs := strValues ps) ⟨_, N4.get (by k_mem), rfl, _, rfl⟩ (Int.natCast_nonneg _) (lt63 hk0) (v := .str xk tk5) (by rw [Int.toNat_natCast]; exact hx3) ?_
      iterate 1 walk1
      (with_reducible rename Fr _ _ _ _ => F4)
      refine ⟨XK.keeps F4.keep, ?_⟩
      refine wpAny_call (qd_spec G (by exact F4.keep) (by walk_at "om") xk tk5 (by walk_at "om") fun h7 t7 tk7 y kb7 hy => ?_)
      replace F4 := F4.kept kb7
      replace N4 := N4.grown kb7
      dsimp only
      obtain ⟨hc1, _⟩ := hb (i + 1) hlt
      have hc2 := hc1 (bossOf f kk) hb8
      rw [hS1, hst] at hc2
      simp only [if_pos, List.length_append] at hc2
      have hys : y.size ≤ 100000 := by rw [← Array.length_toList, hy, hx2]; walk_at "om"
      refine SB.add (fun t' k' => ?_) (by show (Str.mk (endOf f kk).toArray).cps.size + y.size ≤ _; rw [sizeLine_eq]; walk_at "om")
      refine SB.iadd (fun t'' k'' => ?_) (by
        show xb.cps.size + (Str.mk (endOf f kk).toArray ++ Str.mk y).cps.size ≤ _
        rw [Str.cps_append, Array.size_append, sizeLine_eq]; show xb.cps.size + ((Str.mk (endOf f kk).toArray).cps.size + y.size) ≤ _; walk_at "om")
      refine ki_set F4 N4 (Int.natCast_nonneg _) (lt63 hb8) (ki_setL_ok (by rw [Int.toNat_natCast]; simp [strValues]; walk_at "om")) (.tail ?_ (.tail ?_ (.head ?_))) fun h9 F9 N9 => ?_
      · refine neN ?_; dsimp only; walk_at "om"
      · refine neN ?_; dsimp only; walk_at "om"
      · intro p hp
        simp only [List.mem_cons, List.not_mem_nil, or_false] at hp
        rcases hp with rfl | rfl <;> (refine neN ?_; dsimp only; walk_at "om")
      iterate 3 walk1
      (with_reducible rename News _ _ _ _ => N5)
      (with_reducible rename Fr _ _ _ _ => F5)
      refine hT _ _ ⟨_, _, _, _, rfl, F5, List.forall_mem_cons.mpr ⟨N5 _ (by k_mem), List.forall_mem_cons.mpr ⟨N5 (pg, listOf (strValues (ps.set (bossOf f kk) (xb ++ (Str.mk (endOf f kk).toArray ++ Str.mk y), t''))).toArray kp) ?_, List.forall_mem_cons.mpr ⟨N5 _ (by k_mem), List.forall_mem_cons.mpr ⟨N5 _ (by k_mem), List.forall_mem_nil _⟩⟩⟩⟩, ?_, ?_, tw, ?_, _, _, ?_, rfl⟩
      · rw [show strValues (ps.set (bossOf f kk) (xb ++ (Str.mk (endOf f kk).toArray ++ Str.mk y), t'')) = (strValues ps).set ((bossOf f kk : Int)).toNat (.str (xb ++ (Str.mk (endOf f kk).toArray ++ Str.mk y)) t'') from by rw [Int.toNat_natCast]; simp [strValues, List.map_set]]
        exact .tail _ (.tail _ (.head _))
      · repeat (first | assumption | exact lk_eq | refine lk_ne (by decide) ?_)
      · repeat (first | assumption | exact lk_eq | refine lk_ne (by decide) ?_)
      · rw [hS1, hst]
        repeat (first | assumption | exact lk_eq | refine lk_ne (by decide) ?_)
      · rw [hS1, hst, List.map_set, hps]
        apply List.ext_getElem?
        intro j
        by_cases hj : j < 8
        · rw [List.getElem?_set, List.getElem?_map, List.getElem?_map, List.getElem?_range hj]
          by_cases hjb : bossOf f kk = j
          · rw [if_pos hjb, if_pos (by simp; walk_at "om")]
            subst hjb
            dsimp only [Option.map]
            rw [if_pos rfl, Str.cps_append, Str.cps_append, Array.toList_append, Array.toList_append, hy2, hy, hx2]
          · rw [if_neg hjb]
            dsimp only [Option.map]
            rw [if_neg (fun e => hjb e.symm)]
        · rw [List.getElem?_eq_none (by simp; walk_at "om"), List.getElem?_eq_none (by simp; walk_at "om")]
  · rintro h9 tk9 m' news' ⟨m1', m3', tw, m4, ps', kp', hps', rfl⟩ F9 N9
    obtain ⟨hb1, hb2⟩ := hb 8 (by walk_at "om")
    dsimp only
    iterate 9 walk1
    rw [show Str.ofString "\x0d.\x0d\"\\\" \"\t#\x0b. \\a" = Str.mk pgTail.toArray from rfl]
    refine SB.add (fun t' k' => ?_) (by show (Str.mk (pgSt f S 8).2.toArray).cps.size + (Str.mk pgTail.toArray).cps.size ≤ _; rw [List.size_toArray, sizeLine_eq]; show _ + 15 ≤ _; walk_at "om")
    rw [str_app2]
    iterate 1 walk1
    (with_reducible rename Fr _ _ _ _ => F4)
    (with_reducible rename News _ _ _ _ => N4)
    refine ⟨XK.keeps F4.keep, ?_⟩
    refine wpAny_call (qd_spec G (by exact F4.keep) (by walk_at "om") _ _ (by rw [List.size_toArray, List.length_append]; show _ + 15 ≤ _; walk_at "om") fun h7 t7 tk7 y kb7 hy => ?_)
    exact h _ _ _ _ _ (F4.kept kb7) (List.forall_mem_cons.mpr ⟨N4.grown kb7 _ (by k_mem), List.forall_mem_cons.mpr ⟨N4.grown kb7 _ (by k_mem), List.forall_mem_nil _⟩⟩) hy
end
end
theorem Again.at13 {M : Model} {A : Around} {env : Env} {Q : Flow → Shared → Prop} {E : Value → Shared → Prop} {s : Shared} (h : Q .next s) : wpAny M A (execs [] env) Q E s := by w_top off; walk1; exact h
section
set_option maxRecDepth 100000
noncomputable def esc (x : Str) : Str := ⟨(x.cps.toList.flatMap fun c => if c = 32 ∨ c = 92 then [92, c] else [c]).toArray⟩
noncomputable def escC (c : Nat) : Str := if c = 32 ∨ c = 92 then ⟨#[92, c]⟩ else ⟨#[c]⟩
noncomputable def pgOf (x : Str) : Str := locn (some "") (some (esc x))
noncomputable def pgS0 (nm : List (Str × Tok)) : (Nat → List Nat) × List Nat := (fun j => ((nm[j]?).map (fun p => (pgOf p.1).cps.toList)).getD [], [])
theorem cat_esc (l : List Nat) : Str.mk (cat (l.map escC)) = ⟨(l.flatMap fun c => if c = 32 ∨ c = 92 then [92, c] else [c]).toArray⟩ := by
  congr 1
  induction l with
  | nil => rfl
  | cons c r ih =>
    rw [List.map_cons, cat_cons, ih, List.flatMap_cons, escC]
    split <;> simp
theorem esc_len (l : List Nat) : (l.flatMap fun c => if c = 32 ∨ c = 92 then [92, c] else [c]).length ≤ 2 * l.length := by
  induction l with
  | nil => simp
  | cons c r ih =>
    rw [List.flatMap_cons, List.length_append, List.length_cons]
    split <;> simp only [List.length_cons, List.length_nil] <;> walk_at "om"
theorem cat_esc_len (l : List Nat) : (cat (l.map escC)).size ≤ 2 * l.length := by
  have := congrArg (fun z : Str => z.cps.size) (cat_esc l)
  dsimp only at this
  rw [this, List.size_toArray]
  exact esc_len l
inductive J4 (c nl pg : Addr) (f : Nat → Int) (tf : Nat → Tok) (k kn : Nat) (nm : List (Str × Tok)) (i : Nat) (m' : Str → Option Value) (news' : List (Addr × Obj)) : Prop
  | mk (m1 : m' "cells" = some (.ref c)) (m2 : m' "names" = some (.ref nl)) (m3 : m' "pages" = some (.ref pg)) (ps : List (Str × Tok)) (kp : Nat) (e : news' = [(pg, listOf (strValues ps).toArray kp), (c, listOf ((List.range 8).map (fun i => Value.int (f i) (tf i))).toArray k), (nl, listOf (strValues nm).toArray kn)]) (hps : ps.map (·.1) = (nm.take i).map fun p => pgOf p.1)
section
variable {w : World} {mg mb : Str → Option Value} {g h₀ : Heap} {A : Around} {R : Result → Shared → Prop} {s s' : Shared} {E : Value → Shared → Prop}
set_option maxHeartbeats 2000000
theorem page_spec (G : Gnd w mg mb h₀) (st : h₀.StaysIn s.heap) (hroom : A.depth < 770) (hh : A.handled = none) {c nl : Addr} {k kn : Nat} {f : Nat → Int} {tf : Nat → Tok} {nm : List (Str × Tok)}
   (hn : Led h₀ s.heap [(c, listOf ((List.range 8).map (fun i => Value.int (f i) (tf i))).toArray k), (nl, listOf (strValues nm).toArray kn)]) (hnm : ∀ p ∈ nm, p.1.cps.all (· < 128) = true ∧ p.1.cps.size ≤ 10) (hnl : nm.length = 8) (hne : @Ne Nat c nl) (hf : ∀ i, 0 ≤ f i)
   (hb : ∀ i ≤ 8, (∀ j < 8, ((pgSt f (pgS0 nm) i).1 j).length ≤ 100000) ∧ (pgSt f (pgS0 nm) i).2.length ≤ 100000)
   (h : ∀ h' tk t y, Keep [] s.heap h' → y.toList = quote ((pgSt f (pgS0 nm) 8).2 ++ pgTail) → R (.ok (.ret (.str ⟨y⟩ t))) { s with heap := h', toks := tk }) :
   codeAny (model PG w) A (.call (.ref 130) ⟨[.ref c, .ref nl], []⟩) R s := by
  refine enter G st (by with_unfolding_all rfl) (by with_unfolding_all rfl) (by show A.depth < 1000; walk_at "om") (BindsTo.of_eq (binds := [("cells", .ref c), ("names", .ref nl)]) rfl) (by exact locs rfl) _ hn ?_
  intro g L' h₁ tk I F N G'
  have XK := G'.k
  obtain ⟨me, TT⟩ := G'.t
  iterate 8 walk1
  refine wpAny_For ?_
  iterate 1 walk1
  (with_reducible rename Fr _ _ _ _ => F1)
  (with_reducible rename News _ _ _ _ => N1)
  (with_reducible rename _ ∧ _ => l1)
  rename_i pg _ _
  refine iterList (items := (strValues nm).toArray) F1 N1 ⟨_, N1.get (by k_mem), rfl, _, rfl⟩ fun it h2 oi F2 N2 hc hd l2 => ?_
  refine loopList (l := nl) (by exact hh) (items := (strValues nm).toArray) (J4 c nl pg f tf k kn nm) ?_ F2 N2 hc hd ⟨rfl, rfl, rfl, [], _, rfl, rfl⟩ ?_ ?_ ?_
  · rintro i m' news' ⟨_, _, _, ps, kp, rfl, _⟩ h3 F3 N3
    exact ⟨_, N3.get (by k_mem), rfl, _, rfl⟩
  · rintro i m' news' ⟨_, _, _, ps, kp, rfl, _⟩ p hp
    cases hp with
    | head => exact Nat.ne_of_lt (show @LT.lt Nat _ pg it from l2 (pg, listOf #[] 0) (.head _))
    | tail _ hp => exact Nat.ne_of_lt (l2 p (.tail _ hp))
  · rintro i v m' news' h' tk' o' Qt Et hT hE hv ⟨m1, m2, m3, ps, kp, rfl, hps⟩ F' N'
    have hx : ∃ x t, nm[i]? = some (x, t) ∧ v = .str x t := by
      simp only [strValues, List.getElem?_toArray, List.getElem?_map, Option.map_eq_some_iff] at hv
      obtain ⟨p, e1, e2⟩ := hv
      exact ⟨p.1, p.2, e1, e2.symm⟩
    refine hideP fun G9 hG9 => ?_
    obtain ⟨x, tx, hx, rfl⟩ := hx
    refine hG9 ?_
    clear hG9
    obtain ⟨hasc, hlen⟩ := hnm _ (List.mem_of_getElem? hx)
    dsimp only at hasc hlen
    iterate 20 walk1
    (with_reducible rename Fr _ _ _ _ => F3)
    refine ListComp_S (y := x) F3 hasc (by with_unfolding_all rfl) (by decide) (by rfl) (by decide) (by rfl) ?_
    iterate 1 walk1
    (with_reducible rename Fr _ _ _ _ => F3)
    (with_reducible rename News _ _ _ _ => N3)
    refine ⟨_, _, rfl, by exact hh, F3, N3, by rw [sizeLine_eq]; walk_at "om", fun s₂ hs₂ => ?_⟩
    obtain ⟨h₂, rfl⟩ := hs₂
    refine CompRest.turns (n := x.cps.size) (fun i ys news2 => ∃ l : List (Str × Tok), ys = strValues l ∧ l.map (·.1) = (x.cps.toList.take i).map escC ∧ news2 = (it, o') :: [(pg, listOf (strValues ps).toArray kp), (c, listOf ((List.range 8).map (fun i => Value.int (f i) (tf i))).toArray k), (nl, listOf (strValues nm).toArray kn)]) (fun i ys news1 v I oI C oC D m₂ h tk E' Qt hT hi j hP hC hx F N off ne => ?_) (fun ys news j => ?_) _ _ _ _ (Nat.zero_add _) ⟨[], rfl, rfl, ?_⟩
    · refine hideP fun G9 hG9 => ?_
      obtain ⟨c, u, hc, rfl⟩ := hP
      refine hG9 ?_
      clear hG9
      refine hideP fun G9 hG9 => ?_
      obtain ⟨l, rfl, hl, rfl⟩ := j
      refine hG9 ?_
      clear hG9
      iterate 5 walk1
      rw [show (!(Builtin.Str.occurrences (Str.ofString " \\") ⟨#[c]⟩ 0 (Str.ofString " \\").length 1).isEmpty) = decide (c ∈ (Str.ofString " \\").cps.toList) from StrLaws.found_one _ _]
      iterate 1 walk1
      have hcl : x.cps.toList[i]? = some c := by simpa using hc
      have hnext : ∀ (z : Str) (tz : Tok), z = escC c → ∃ l2 : List (Str × Tok), strValues l ++ [Value.str z tz] = strValues l2 ∧ l2.map (·.1) = (x.cps.toList.take (i + 1)).map escC := fun z tz e => ⟨l ++ [(z, tz)], by simp [strValues], by rw [List.map_append, hl, List.take_add_one, hcl, List.map_append]; simp [e]⟩
      by_cases hin : c ∈ (Str.ofString " \\").cps.toList
      · rw [if_pos (decide_eq_true hin)]
        iterate 3 walk1
        refine SB.add (fun t' k' => ?_) (by show 1 + 1 ≤ _; rw [sizeLine_eq]; walk_at "om")
        obtain ⟨l2, e1, e2⟩ := hnext _ t' (show _ = escC c from by
          have : c = 32 ∨ c = 92 := by simpa [show (Str.ofString " \\").cps.toList = [32, 92] from rfl] using hin
          rw [escC, if_pos this])
        exact hT _ _ ⟨_, _, _, rfl, F, N, off, trivial, l2, e1, e2, rfl⟩
      · rw [if_neg (by simpa using hin)]
        iterate 1 walk1
        obtain ⟨l2, e1, e2⟩ := hnext _ u (show ⟨#[c]⟩ = _ from by
          have : ¬ (c = 32 ∨ c = 92) := by simpa [show (Str.ofString " \\").cps.toList = [32, 92] from rfl] using hin
          rw [escC, if_neg this])
        exact hT _ _ ⟨_, _, _, rfl, F, N, off, trivial, l2, e1, e2, rfl⟩
    · refine hideP fun G9 hG9 => ?_
      obtain ⟨l, rfl, hl, rfl⟩ := j
      refine hG9 ?_
      clear hG9
      rw [List.take_of_length_le (by rw [Array.length_toList]; exact Nat.le_refl _)] at hl
      intro D h5 tk5 F5 N5 off5
      iterate 1 walk1
      refine wp_join (l := l) (t := _) (show _ from ⟨_, N5.get (.head _), rfl, _, rfl⟩) (by
        rw [hl]
        have := cat_esc_len x.cps.toList
        rw [Array.length_toList] at this
        rw [sizeLine_eq]; walk_at "om") fun tj kj => ?_
      rw [hl, cat_esc]
      iterate 3 walk1
      (with_reducible rename Fr _ _ _ _ => F6)
      (with_reducible rename News _ _ _ _ => N6)
      refine ⟨XK.keeps F6.keep, ?_⟩
      have hel : (esc x).cps.size ≤ 20 := by
        show (List.toArray _).size ≤ _
        rw [List.size_toArray]
        exact Nat.le_trans (esc_len _) (by rw [Array.length_toList]; walk_at "om")
      refine wpAny_call (locname_spec (a := some "") (b := some (esc x)) G' (by exact F6.keep) (by show A.depth + 1 < 900; walk_at "om") (by exact hh) (Mine.News.led (List.forall_mem_cons.mpr ⟨N6 _ (.head _), List.forall_mem_nil _⟩)) (by intro x e; cases e; decide) (by intro x e; cases e; walk_at "om") fun h7 tk7 t7 kb7 => ?_)
      replace F6 := F6.kept (Keep.all kb7)
      replace N6 := N6.grown (Keep.all kb7)
      dsimp only
      iterate 1 walk1
      have lp : @LT.lt Nat _ pg it := l2 _ (.head _)
      have lc : @LT.lt Nat _ c it := l2 _ (.tail _ (.head _))
      have ln : @LT.lt Nat _ nl it := l2 _ (.tail _ (.tail _ (.head _)))
      simp only [LCg.Off1] at off5
      refine' append_K F6 N6 ?U ?_ ?z
      case U => k_upd
      case z =>
        have := congrArg List.length hps
        simp only [List.length_map, List.length_take] at this
        simp [strValues, sizeLine_eq]; walk_at "om"
      intro h8 F8 N8
      rw [push_str] at N8
      iterate 2 walk1
      refine hT _ _ ⟨h8, _, _, _, rfl, F8, List.forall_mem_cons.mpr ⟨N8 _ (by k_mem), List.forall_mem_cons.mpr ⟨N8 _ (by k_mem), List.forall_mem_cons.mpr ⟨N8 _ (by k_mem), List.forall_mem_cons.mpr ⟨N8 _ (by k_mem), List.forall_mem_nil _⟩⟩⟩⟩, lk_ne (by decide) m1, lk_ne (by decide) m2, lk_ne (by decide) m3, _, _, rfl, ?_⟩
      rw [List.map_append, hps, List.take_add_one, hx, List.map_append]
      rfl
    · rfl
  · rintro h3 tk3 m' news' ⟨m1, m2, m3, ps, kp, rfl, hps⟩ F3 N3
    dsimp only
    have q1 : @LT.lt Nat _ c pg := l1.1
    have q2 : @LT.lt Nat _ nl pg := l1.2
    refine page_tail (L := L') (S := pgS0 nm) (f := f) (tf := tf) G' (by show A.depth + 1 < 780; walk_at "om") (by exact hh) F3 N3 q1 q2 hne hf m1 m3 rfl ?_ hb fun h4 tk4 t4 y m4 F4 N4 hy => ?_
    · have e : ps.map (fun p => p.1.cps.toList) = (ps.map (·.1)).map (fun x => x.cps.toList) := by simp
      rw [e, hps, List.size_toArray, show (strValues nm).length = nm.length from by simp [strValues], List.take_of_length_le (Nat.le_refl _)]
      apply List.ext_getElem?
      intro j
      simp only [List.getElem?_map]
      by_cases hj : j < 8
      · rw [List.getElem?_range hj, List.getElem?_eq_getElem (by walk_at "om" : j < nm.length)]
        simp [pgS0, List.getElem?_eq_getElem (by walk_at "om" : j < nm.length)]
      · rw [List.getElem?_eq_none (by walk_at "om"), List.getElem?_eq_none (by simp; walk_at "om")]
        rfl
    · exact h _ _ _ _ (I.keepAll hn F4 (List.forall_mem_cons.mpr ⟨N4.get (by k_mem), List.forall_mem_cons.mpr ⟨N4.get (by k_mem), List.forall_mem_nil _⟩⟩)) hy
end
end
theorem Again.at14 {M : Model} {A : Around} {env : Env} {Q : Flow → Shared → Prop} {E : Value → Shared → Prop} {s : Shared} (h : Q .next s) : wpAny M A (execs [] env) Q E s := by w_top off; walk1; exact h
section
set_option maxRecDepth 100000
noncomputable def freeW (more : Str) (wait : List Str) : List Str → Bool
  | [] => true
  | o :: r => if Txt.startswith o more = true then (if o ∈ wait then false else freeW more wait r) else true
theorem freeW_cons (more : Str) (wait : List Str) (o : Str) (r : List Str) : freeW more wait (o :: r) = if Txt.startswith o more = true then (if o ∈ wait then false else freeW more wait r) else true := rfl
inductive J6 (mo : Str) (al D wl : Addr) (kw ka : Nat) (ws wa ds : List (Str × Tok)) (i : Nat) (m' : Str → Option Value) (news' : List (Addr × Obj)) : Prop
  | mk (t : Tok) (m1 : m' "more" = some (.str mo t)) (m2 : m' "waiting" = some (.ref al)) (e : news' = [(D, listOf (strValues ds).toArray 0), (wl, listOf (strValues ws).toArray kw), (al, listOf (strValues wa).toArray ka)]) (hf : freeW mo (wa.map (·.1)) ((ds.drop i).map (·.1)) = freeW mo (wa.map (·.1)) (ds.map (·.1)))
section
variable {w : World} {mg mb : Str → Option Value} {g h₀ : Heap} {A : Around} {R : Result → Shared → Prop} {s s' : Shared} {E : Value → Shared → Prop}
set_option maxHeartbeats 2000000
theorem free_spec (G : Gnd w mg mb h₀) (st : h₀.StaysIn s.heap) (hroom : A.depth < 800) (hh : A.handled = none) {wl al : Addr} {kw ka : Nat} {ws wa : List (Str × Tok)} {x : Str} {t : Tok}
   (hn : Led h₀ s.heap [(wl, listOf (strValues ws).toArray kw), (al, listOf (strValues wa).toArray ka)]) (hw : ws.length ≤ 8) (ha : wa.length ≤ 8) (hz : ∀ p ∈ ws, p.1.cps.size ≤ 100) {j : Nat} (hj : j < ws.length) (hx : (ws[j]'hj).1 = x) (hne : ∀ i (hi : i < ws.length), i < j → (ws[i]'hi).1 ≠ x)
   (h : ∀ h' tk, Keep [] s.heap h' → R (.ok (.ret (.bool (freeW (Txt.slice x none (some (↑x.length - ↑(Txt.lstripChars x (Str.ofString ".")).length)) ++ Str.ofString ".") (wa.map (·.1)) ((ws.drop (j + 1)).map (·.1)))))) { s with heap := h', toks := tk }) :
   codeAny (model PG w) A (.call (.ref 137) ⟨[.ref wl, .ref al, .str x t], []⟩) R s := by
  refine enter G st (by with_unfolding_all rfl) (by with_unfolding_all rfl) (by show A.depth < 1000; walk_at "om") (BindsTo.of_eq (binds := [("words", .ref wl), ("waiting", .ref al), ("word", .str x t)]) rfl) (by exact locs rfl) _ hn ?_
  intro g L' h₁ tk I F N G'
  have XK := G'.k
  obtain ⟨me, TT⟩ := G'.t
  have hxl : x.length ≤ 100 := hx ▸ hz _ (List.getElem_mem hj)
  iterate 15 walk1
  refine len_str (by walk_at "om") ?_
  iterate 11 walk1
  refine SCL.lstripChars (hsz := by rw [sizeLine_eq]; walk_at "om") ?_
  intro t1 k1 h1
  iterate 1 walk1
  refine len_str (by walk_at "om") ?_
  iterate 3 walk1
  iterate 1 walk1
  have hml : (Txt.slice x none (some (↑x.length - ↑(Txt.lstripChars x (Str.ofString ".")).length))).length ≤ x.length := by
    exact PyProof.Txt.length_slice_le _ _ _
  refine SB.add (fun t2 k2 => ?_) (by show _ + 1 ≤ _; rw [sizeLine_eq]; walk_at "om")
  generalize Txt.slice x none (some (↑x.length - ↑(Txt.lstripChars x (Str.ofString ".")).length)) ++ Str.ofString "." = mo at h ⊢
  iterate 3 walk1
  refine wpAny_For ?_
  iterate 12 walk1
  (with_reducible rename Fr _ _ _ _ => F3)
  (with_reducible rename News _ _ _ _ => N3)
  refine words_index (N3.get (by k_mem)) hj (by walk_at "om") hx hne ?_
  iterate 4 walk1
  (with_reducible rename Fr _ _ _ _ => F4)
  (with_reducible rename News _ _ _ _ => N4)
  have hpick : (PySem.slicePick (strValues ws).toArray (some ((j : Int) + 1)) none none).toList = strValues (ws.drop (j + 1)) := by
    have hsz : (strValues ws).toArray.size = ws.length := by simp [strValues]
    rw [kmk_pick_nat (a := j + 1) (b := ws.length) _ ?_]
    · simp only [strValues, List.map_drop]
      rw [List.take_of_length_le (by simp)]
    · unfold PySem.sliceBounds
      simp only [Option.getD_none, hsz]
      have e1 : ¬ ((j : Int) + 1 < 0) := by walk_at "om"
      simp only [e1, if_false, show (1 : Int) > 0 by decide, if_true]
      congr 1
      walk_at "om"
  refine kmk_slice_lit F4 N4 ⟨_, N4.get (by k_mem), rfl, _, rfl⟩ (.int _ _) .none hpick (fun D h5 F5 N5 l5 => ?_) (by with_unfolding_all rfl) (by intro _; with_unfolding_all rfl) (by simp [strValues, sizeLine_eq]; walk_at "om")
  refine iterList (items := (strValues (ws.drop (j + 1))).toArray) F5 N5 ⟨_, N5.get (by k_mem), rfl, _, rfl⟩ fun it h6 oi F6 N6 hc hd l6 => ?_
  refine loopList (l := D) (by exact hh) (items := (strValues (ws.drop (j + 1))).toArray) (J6 mo al D wl kw ka ws wa (ws.drop (j + 1))) ?_ F6 N6 hc hd ⟨t2, if_pos rfl, rfl, rfl, rfl⟩ ?_ ?_ ?_
  · rintro i m' news' ⟨_, _, _, rfl, _⟩ h7 F7 N7
    exact ⟨_, N7.get (.head _), rfl, _, rfl⟩
  · rintro i m' news' ⟨_, _, _, rfl, _⟩ p hp
    exact Nat.ne_of_lt (l6 p hp)
  · rintro i v m' news' h' tk' o' Qt Et hT hE hv ⟨tm, m1, m2, rfl, hfr⟩ F' N'
    have hq : ∃ o to, (ws.drop (j + 1))[i]? = some (o, to) ∧ v = .str o to := by
      simp only [strValues, List.getElem?_toArray, List.getElem?_map, Option.map_eq_some_iff] at hv
      obtain ⟨p, e1, e2⟩ := hv
      exact ⟨p.1, p.2, e1, e2.symm⟩
    refine hideP fun G9 hG9 => ?_
    obtain ⟨o, to, ho, rfl⟩ := hq
    refine hG9 ?_
    clear hG9
    have hdrop : (ws.drop (j + 1)).drop i = (o, to) :: (ws.drop (j + 1)).drop (i + 1) := by
      rw [List.drop_eq_getElem_cons (List.getElem?_eq_some_iff.mp ho).1, (List.getElem?_eq_some_iff.mp ho).2]
    rw [hdrop, List.map_cons, freeW_cons] at hfr
    iterate 11 walk1
    refine SC.startswith ?_
    iterate 1 walk1
    (with_reducible rename News _ _ _ _ => N9)
    have hkeep := I.keepAll hn (by assumption) (List.forall_mem_cons.mpr ⟨N9.get (by k_mem), List.forall_mem_cons.mpr ⟨N9.get (by k_mem), List.forall_mem_nil _⟩⟩)
    cases hs : Txt.startswith o mo with
    | false =>
      rw [if_pos (by rfl)]
      rw [if_neg (by show ¬ (Txt.startswith o mo = true); rw [hs]; decide)] at hfr
      iterate 3 walk1
      rw [← hfr] at h
      exact hT _ _ (h _ _ hkeep)
    | true =>
      rw [if_neg (by decide)]
      rw [if_pos hs] at hfr
      iterate 6 walk1
      refine words_in (ws := wa) ⟨_, N9.get (by k_mem), rfl, _, rfl⟩ ?_
      by_cases hin : o ∈ wa.map (·.1)
      · rw [decide_eq_true hin]
        rw [if_pos hin] at hfr
        iterate 5 walk1
        rw [← hfr] at h
        exact hT _ _ (h _ _ hkeep)
      · rw [decide_eq_false hin]
        rw [if_neg hin] at hfr
        iterate 4 walk1
        (with_reducible rename Fr _ _ _ _ => F9)
        exact hT _ _ ⟨_, _, _, _, rfl, F9, N9, tm, lk_ne (by decide) m1, lk_ne (by decide) m2, rfl, hfr⟩
  · rintro h7 tk7 m' news' ⟨_, _, _, rfl, hfr⟩ F7 N7
    dsimp only
    iterate 3 walk1
    have e : true = freeW (mo) (wa.map (·.1)) ((ws.drop (j + 1)).map (·.1)) := by
      rw [← hfr, List.drop_of_length_le (by simp [strValues])]
      rfl
    rw [e]
    exact h _ _ (I.keepAll hn F7 (List.forall_mem_cons.mpr ⟨N7.get (by k_mem), List.forall_mem_cons.mpr ⟨N7.get (by k_mem), List.forall_mem_nil _⟩⟩))
end
end
theorem Again.at15 {M : Model} {A : Around} {env : Env} {Q : Flow → Shared → Prop} {E : Value → Shared → Prop} {s : Shared} (h : Q .next s) : wpAny M A (execs [] env) Q E s := by w_top off; walk1; exact h
section
set_option maxRecDepth 100000
noncomputable def lhrs (ss : List Int) : Nat → Int → Nat → Nat
  | 0, _, h => h
  | f + 1, a, h => if 0 < a then lhrs ss f (a - ss.getD (min h 3) 0) (h + 1) else h
theorem lhrs_succ (ss : List Int) (f : Nat) (a : Int) (h : Nat) : lhrs ss (f + 1) a h = if 0 < a then lhrs ss f (a - ss.getD (min h 3) 0) (h + 1) else h := rfl
theorem lhrs_pos {ss : List Int} {f : Nat} {a : Int} {h : Nat} (ha : 0 < a) (hf : 0 < f) : lhrs ss f a h = lhrs ss (f - 1) (a - ss.getD (min h 3) 0) (h + 1) := by
  cases f with
  | zero => walk_at "om"
  | succ f => rw [lhrs_succ, if_pos ha]; rfl
theorem lhrs_end {ss : List Int} {f : Nat} {a : Int} {h : Nat} (ha : ¬ 0 < a) : lhrs ss f a h = h := by
  cases f with
  | zero => rfl
  | succ f => rw [lhrs_succ, if_neg ha]
noncomputable def leastF (ds ss : List Int) : Nat → Int
  | 0 => 0
  | l + 1 => max (leastF ds ss l) ((l : Int) + (lhrs ss 9 ((ds.filter fun d => decide ((l : Int) < d)).length) 0 : Nat))
theorem leastF_succ (ds ss : List Int) (l : Nat) : leastF ds ss (l + 1) = max (leastF ds ss l) ((l : Int) + (lhrs ss 9 ((ds.filter fun d => decide ((l : Int) < d)).length) 0 : Nat)) := rfl
inductive J1 (dl sl : Addr) (ds ss : List Int) (vs us : List Value) (kd ks : Nat) (i : Nat) (m' : Str → Option Value) (news' : List (Addr × Obj)) : Prop
  | mk (m1 : m' "depths" = some (.ref dl)) (m2 : m' "steps" = some (.ref sl)) (t : Tok) (m3 : m' "least" = some (.int (leastF ds ss i) t)) (e : news' = [(dl, listOf vs.toArray kd), (sl, listOf us.toArray ks)])
inductive J1w (s : Shared) (g : Heap) (L' it dl sl : Addr) (oc : Obj) (ds ss : List Int) (vs us : List Value) (kd ks : Nat) (tl : Tok) (i K : Nat) (k : Nat) (s' : Shared) : Prop
  | mk (h : Heap) (tk : Nat) (m'' : Str → Option Value) (a : Int) (hrs : Nat) (ta th : Tok) (e : s' = { s with heap := h, toks := tk }) (F : Fr g L' h m'') (N : News g L' h [(it, riObj (0 + (i + 1 : Nat) * 1) (K - (i + 1 : Nat)) 1), (L' + 1, oc), (dl, listOf vs.toArray kd), (sl, listOf us.toArray ks)]) (q1 : m'' "depths" = some (.ref dl)) (q2 : m'' "steps" = some (.ref sl)) (q3 : m'' "least" = some (.int (leastF ds ss i) tl)) (q4 : m'' "above" = some (.int a ta)) (q5 : m'' "hours" = some (.int (hrs : Nat) th)) (hak : a < (k : Int)) (hk9 : hrs + k ≤ 9) (hlh : lhrs ss k a hrs = lhrs ss 9 ((ds.filter fun d => decide ((i : Int) < d)).length) 0)
section
variable {w : World} {mg mb : Str → Option Value} {g h₀ : Heap} {A : Around} {R : Result → Shared → Prop} {s s' : Shared} {E : Value → Shared → Prop}
set_option maxHeartbeats 2000000
theorem least_spec (G : Gnd w mg mb h₀) (st : h₀.StaysIn s.heap) (hroom : A.depth < 800) (hh : A.handled = none) {dl sl : Addr} {kd ks : Nat} {vs us : List Value} {ds ss : List Int}
   (hn : Led h₀ s.heap [(dl, listOf vs.toArray kd), (sl, listOf us.toArray ks)]) (hd : IntsAre vs ds) (hs : IntsAre us ss) (h8 : ds.length = 8) (h4 : ss.length = 4) (hd2 : ∀ d ∈ ds, 0 ≤ d ∧ d ≤ 8) (hs2 : ∀ x ∈ ss, 1 ≤ x ∧ x ≤ 10)
   (h : ∀ h' tk t (M : Nat), Keep [] s.heap h' → (M : Int) ∈ ds → (∀ a ∈ ds, a ≤ M) → R (.ok (.ret (.int (leastF ds ss M) t))) { s with heap := h', toks := tk }) :
   codeAny (model PG w) A (.call (.ref 147) ⟨[.ref dl, .ref sl], []⟩) R s := by
  refine enterC G st (by with_unfolding_all rfl) (by with_unfolding_all rfl) (by show A.depth < 1000; walk_at "om") (BindsTo.of_eq (binds := [("depths", .ref dl), ("steps", .ref sl)]) rfl) (by rfl) (by decide) _ hn ?_
  intro g L' h₁ tk cells I F N Y G'
  have XK := G'.k
  obtain ⟨me, TT⟩ := G'.t
  obtain ⟨oc, he, dc⟩ := PyProof.Rows.CellsAre.one Y
  subst he
  dsimp only [List.cons_append, List.nil_append] at N
  have d1 : @LT.lt Nat _ dl L' := I.lt _ (.head _)
  have d2 : @LT.lt Nat _ sl L' := I.lt _ (.tail _ (.head _))
  iterate 5 walk1
  refine wpAny_For ?_
  iterate 10 walk1
  (with_reducible rename Fr _ _ _ _ => F1)
  (with_reducible rename News _ _ _ _ => N1)
  refine max_list_N (by exact hh) F1 N1 ⟨_, N1.get (by k_mem), rfl, _, rfl⟩ hd (by walk_at "om") (fun h2 M t2 tk2 F2 N2 hM1 hM2 => ?_)
  obtain ⟨hM0, hM8⟩ := hd2 _ hM1
  obtain ⟨K, rfl⟩ : ∃ K : Nat, M = (K : Int) := ⟨M.toNat, (Int.toNat_of_nonneg hM0).symm⟩
  iterate 1 walk1
  refine range1_iter F2 N2 (by walk_at "om") (by walk_at "om") fun it h3 tk3 F3 N3 l3 => ?_
  have l4 : @LT.lt Nat _ (L' + 1) it := l3 _ (.head _)
  have l5 : @LT.lt Nat _ dl it := l3 _ (.tail _ (.head _))
  have l6 : @LT.lt Nat _ sl it := l3 _ (.tail _ (.tail _ (.head _)))
  refine loopRangeC (by exact hh) (cc := L' + 1) (x0 := 0) (c := 1) (n := K) (J := J1 dl sl ds ss vs us kd ks) F3 N3 dc ⟨rfl, rfl, _, rfl, rfl⟩ (Nat.ne_of_gt l4) ?_ ?_ ?_ rfl
  · rintro i m' news' ⟨_, _, _, _, rfl⟩ p hp
    simp only [List.mem_cons, List.not_mem_nil, or_false] at hp
    rcases hp with rfl | rfl <;> (refine ⟨neN ?_, neN ?_⟩ <;> dsimp only <;> walk_at "om")
  · rintro i t m' oc news' h' tk' Qt Et hT hE hlt ⟨m1, m2, tl, m3, rfl⟩ hoc F' N'
    iterate 6 walk1
    refine LCt.ListComp_T F' (by with_unfolding_all rfl) (by decide) (by rfl) (by decide) (by rfl) ?_
    iterate 1 walk1
    refine LCt.CompSrcT.ledger (by exact hh) F' N' (by k_mem) (by rw [sizeLine_eq]; have := hd.length; simp; walk_at "om") (fun g2 => ?_)
    have hvs : ∀ j, j < 8 → ∃ n t, vs[j]? = some (.int n t) ∧ ds[j]? = some n := by
      intro j hj
      have e : ds[j]? = some (ds[j]'(by walk_at "om")) := List.getElem?_eq_getElem _
      obtain ⟨t, ht⟩ := hd.get _ _ e
      exact ⟨_, t, ht, e⟩
    refine CompRestT.turns (n := vs.toArray.size) (fun j ys news2 => ys.length = ((ds.take j).filter fun d => decide ((i : Int) < d)).length ∧ news2 = (it, riObj (0 + (i + 1 : Nat) * 1) (K - (i + 1 : Nat)) 1) :: (L' + 1, oc) :: [(dl, listOf vs.toArray kd), (sl, listOf us.toArray ks)]) (fun j ys news1 v I2 oI C oC D m₂ h tk E' Qt Q0 hT hT0 hj hJ hP hC hx F N off ne => ?_) (fun ys news j => ?_) _ _ _ _ (Nat.zero_add _) ⟨rfl, rfl⟩
    · obtain ⟨hl, rfl⟩ := hJ
      have hj8 : j < 8 := by have := hd.length; simp at hj; walk_at "om"
      refine hideP fun G9 hG9 => ?_
      obtain ⟨d, td, ev, ed⟩ := hvs j hj8
      refine hG9 ?_
      clear hG9
      obtain rfl : v = .int d td := by
        have hP' : vs[j]? = some v := by simpa using hP
        rw [ev] at hP'; exact (Option.some.inj hP').symm
      have htk : ds.take (j + 1) = ds.take j ++ [d] := by rw [List.take_add_one, ed]; rfl
      iterate 4 walk1
      by_cases hlv : (i : Int) < d
      · rw [decide_eq_true (by walk_at "om")]
        iterate 1 walk1
        rw [if_pos rfl]
        iterate 1 walk1
        exact hT _ _ ⟨_, _, _, rfl, F, N, off, .inr ⟨_, by k_mem, rfl, _, rfl⟩, by rw [htk, List.filter_append, List.length_append, List.length_append, hl]; simp [hlv], rfl⟩
      · rw [decide_eq_false (by walk_at "om")]
        iterate 1 walk1
        rw [if_neg (by decide)]
        exact hT0 _ ⟨_, _, _, rfl, F, N, off, .inr ⟨_, by k_mem, rfl, _, rfl⟩, by rw [htk, List.filter_append, List.length_append, hl]; simp [hlv], rfl⟩
    · obtain ⟨hl, rfl⟩ := j
      rw [List.take_of_length_le (by have := hd.length; simp; walk_at "om")] at hl
      have hl8 : ys.length ≤ 8 := by rw [hl]; exact Nat.le_trans (List.length_filter_le _ _) (by walk_at "om")
      intro D h5 tk5 F5 N5 off5
      iterate 1 walk1
      refine call_len_list (items := ys.toArray) ⟨_, N5.get (.head _), rfl, _, rfl⟩ (by simp; walk_at "om") ?_
      rw [List.size_toArray, hl]
      iterate 7 walk1
      (with_reducible rename Fr _ _ _ _ => F6)
      (with_reducible rename News _ _ _ _ => N6)
      refine wpAny_While ?_
      refine codeAny_whileLoop (J1w s g L' it dl sl oc ds ss vs us kd ks tl i K) ?_ 9 ⟨_, _, _, _, 0, _, _, rfl, F6, List.forall_mem_cons.mpr ⟨N6 _ (by k_mem), List.forall_mem_cons.mpr ⟨N6 _ (by k_mem), List.forall_mem_cons.mpr ⟨N6 _ (by k_mem), List.forall_mem_cons.mpr ⟨N6 _ (by k_mem), List.forall_mem_nil _⟩⟩⟩⟩, (by repeat (first | assumption | exact lk_eq | refine lk_ne (by decide) ?_)), (by repeat (first | assumption | exact lk_eq | refine lk_ne (by decide) ?_)), (by repeat (first | assumption | exact lk_eq | refine lk_ne (by decide) ?_)), (if_neg (by decide)).trans (if_pos rfl), if_pos rfl, by walk_at "om", by walk_at "om", rfl⟩
      rintro k s' ⟨h7, tk7, m7, a, hrs, ta, th, rfl, F7, N7, q1, q2, q3, q4, q5, hak, hk9, hlh⟩
      iterate 4 walk1
      by_cases ha : 0 < a
      · rw [decide_eq_true (by walk_at "om")]
        iterate 1 walk1
        rw [if_pos rfl]
        iterate 14 walk1
        (with_reducible rename Fr _ _ _ _ => F8)
        (with_reducible rename News _ _ _ _ => N8)
        refine min_two_N (by exact hh) F8 N8 fun h9 tk9 F9 N9 => ?_
        have hmin : (if (3 : Int) < ((hrs : Nat) : Int) then (3 : Int) else ((hrs : Nat) : Int)) = ((min hrs 3 : Nat) : Int) := by split <;> walk_at "om"
        rw [hmin]
        have hm4 : min hrs 3 < ss.length := by walk_at "om"
        obtain ⟨tq, hq⟩ := hs.get (min hrs 3) _ (List.getElem?_eq_getElem hm4)
        have hr := hs2 _ (List.getElem_mem hm4)
        have hgd : ss.getD (min hrs 3) 0 = ss[min hrs 3] := by rw [List.getD_eq_getElem?_getD, List.getElem?_eq_getElem hm4]; rfl
        rw [lhrs_pos ha (by walk_at "om"), hgd] at hlh
        have hul := hs.length
        refine item_litK (vs := us) ⟨_, N9.get (by k_mem), rfl, _, rfl⟩ (by walk_at "om") (by walk_at "om") (v := .int ss[min hrs 3] tq) (by rw [Int.toNat_natCast]; exact hq) ?_
        iterate 9 walk1
        (with_reducible rename Fr _ _ _ _ => F10)
        (with_reducible rename News _ _ _ _ => N10)
        iterate 1 walk1
        refine ⟨k - 1, by walk_at "om", _, _, _, _, hrs + 1, _, _, rfl, F10, List.forall_mem_cons.mpr ⟨N10 _ (by k_mem), List.forall_mem_cons.mpr ⟨N10 _ (by k_mem), List.forall_mem_cons.mpr ⟨N10 _ (by k_mem), List.forall_mem_cons.mpr ⟨N10 _ (by k_mem), List.forall_mem_nil _⟩⟩⟩⟩, (if_neg (by decide)).trans ((if_neg (by decide)).trans q1), (if_neg (by decide)).trans ((if_neg (by decide)).trans q2), (if_neg (by decide)).trans ((if_neg (by decide)).trans q3), (if_neg (by decide)).trans (if_pos rfl), if_pos rfl, by walk_at "om", by walk_at "om", hlh⟩
      · rw [decide_eq_false (by walk_at "om")]
        iterate 1 walk1
        rw [if_neg (by decide)]
        rw [lhrs_end ha] at hlh
        iterate 15 walk1
        (with_reducible rename Fr _ _ _ _ => F8)
        (with_reducible rename News _ _ _ _ => N8)
        refine max_two_N (by exact hh) F8 N8 fun h9 tk9 F9 N9 => ?_
        iterate 3 walk1
        (with_reducible rename Fr _ _ _ _ => F10)
        (with_reducible rename News _ _ _ _ => N10)
        have e : leastF ds ss (i + 1) = if 0 + (i : Int) * 1 + (hrs : Int) > leastF ds ss i then 0 + (i : Int) * 1 + (hrs : Int) else leastF ds ss i := by
          rw [leastF_succ, ← hlh]
          split <;> walk_at "om"
        refine hT _ _ ⟨_, _, _, _, rfl, F10, ?_, oc, _, _, rfl, hoc, (if_neg (by decide)).trans q1, (if_neg (by decide)).trans q2, _, by rw [e]; exact if_pos rfl, rfl⟩
        exact List.forall_mem_cons.mpr ⟨N10 _ (by k_mem), List.forall_mem_cons.mpr ⟨N10 _ (by k_mem), List.forall_mem_cons.mpr ⟨N10 _ (by k_mem), List.forall_mem_cons.mpr ⟨N10 _ (by k_mem), List.forall_mem_nil _⟩⟩⟩⟩
  · rintro h9 tk9 m' oc9 v9 news' ⟨m1, m2, tl, m3, rfl⟩ hoc9 F9 N9
    dsimp only
    iterate 3 walk1
    exact h _ _ _ _ (I.keepAll hn F9 (List.forall_mem_cons.mpr ⟨N9.get (by k_mem), List.forall_mem_cons.mpr ⟨N9.get (by k_mem), List.forall_mem_nil _⟩⟩)) hM1 hM2
end
end
theorem Again.at16 {M : Model} {A : Around} {env : Env} {Q : Flow → Shared → Prop} {E : Value → Shared → Prop} {s : Shared} (h : Q .next s) : wpAny M A (execs [] env) Q E s := by w_top off; walk1; exact h
section
open Sem (wp)
set_option maxRecDepth 100000
inductive GSt
  | run (i : Nat) (last : Option Int)
  | rep (v : Int)
inductive GRes
  | yld (x : Int) (st : GSt)
  | stop
  | fail
noncomputable def gnext (ns : List Int) : GSt → GRes
  | .rep v => .yld v (.rep v)
  | .run i last => match ns[i]? with
    | none => .stop
    | some x => if x = 127 then .stop else if x = 0 then (match last with | none => .fail | some v => .yld v (.rep v)) else .yld x (.run (i + 1) (some x))
noncomputable def gst (ns : List Int) : Nat → GSt
  | 0 => .run 0 none
  | j + 1 => match gnext ns (gst ns j) with
    | .yld _ st => st
    | _ => gst ns j
theorem gst_succ (ns : List Int) (j : Nat) : gst ns (j + 1) = match gnext ns (gst ns j) with
    | .yld _ st => st
    | _ => gst ns j := rfl
noncomputable def gDef : Stmt := (PySem.Challenge.rw_sl0005_01.row.prog.main.body).getD 4 (.Pass default)
noncomputable def forB (s : Stmt) : List Stmt := stB s
noncomputable def forT (s : Stmt) : Expr := stE s
noncomputable def gBody : List Stmt := defB gDef
noncomputable def gFor : Stmt := gBody.getD 1 (.Pass default)
noncomputable def gTurn : List Stmt := forB gFor
noncomputable abbrev gEnv (L : Addr) : Env := envOf "_grouping_intervals" (defS gDef) L 45 (.ref 44)
structure GAt (h₀ : Heap) (L it l : Addr) (vs : List Value) (h h' : Heap) (m : Str → Option Value) (i : Nat) : Prop where
  ns : h'.Ns L m
  st : h₀.StaysIn h'
  kp : Keep [L, it] h h'
  itr : h'.IsListIter it l i
  ls : h'.IsList l vs.toArray
section
variable {h₀ h h' h'' : Heap} {L it l : Addr} {vs : List Value} {m m' : Str → Option Value} {i j : Nat}
theorem GAt.set (x : GAt h₀ L it l vs h h' m i) (hn : h''.Ns L m') (hs : Heap.SameBut L h' h'') (hL : h₀.objs.size ≤ L) (h1 : it ≠ L) (h2 : l ≠ L) : GAt h₀ L it l vs h h'' m' i where
  ns := hn
  st := fun b o e => (hs.2 b (Nat.ne_of_lt (Nat.lt_of_lt_of_le (Heap.lt_size e) hL))).trans (x.st b o e)
  kp := fun b o n e => (hs.2 b (fun q => n (by simp [q]))).trans (x.kp b o n e)
  itr := x.itr.at fun o e => (hs.2 _ h1).trans e
  ls := x.ls.at fun o e => (hs.2 _ h2).trans e
theorem GAt.nxt (x : GAt h₀ L it l vs h h' m i) (hi : h''.IsListIter it l j) (hs : Heap.SameBut it h' h'') (hit : h₀.get? it = none) (h1 : it ≠ L) (h2 : l ≠ it) : GAt h₀ L it l vs h h'' m j where
  ns := x.ns.at' fun o e => (hs.2 _ h1.symm).trans e
  st := fun b o e => (hs.2 b (fun q => by rw [q, hit] at e; cases e)).trans (x.st b o e)
  kp := fun b o n e => (hs.2 b (fun q => n (by simp [q]))).trans (x.kp b o n e)
  itr := hi
  ls := x.ls.at fun o e => (hs.2 _ h2).trans e
theorem GAt.fr (x : GAt h₀ L it l vs h h' m i) (hL : h₀.objs.size ≤ L) : Fr h₀ L h' m := ⟨x.ns, x.st, hL⟩
end
noncomputable def GY (h₀ : Heap) (L it l : Addr) (vs : List Value) (ns : List Int) (N : Nat) : Protocol := fun n s₀ v s₁ κ =>
  ∃ x t st h' tk oL oit, gnext ns (gst ns (N - 1 - n)) = .yld x st ∧ v = .int x t ∧ s₁ = { s₀ with heap := h', toks := tk } ∧ Keep [L, it] s₀.heap h' ∧ h₀.StaysIn h' ∧ h'.get? L = some oL ∧ h'.get? it = some oit ∧
    (0 < n → ∀ s'' : Shared, h₀.StaysIn s''.heap → s''.heap.get? L = some oL → s''.heap.get? it = some oit → s''.heap.IsList l vs.toArray → κ (.send .none) s'')
noncomputable def GR (h₀ : Heap) (L it : Addr) (ns : List Int) (N : Nat) : GenEnd := fun n s₀ r s₁ =>
  ∃ h' tk, s₁ = { s₀ with heap := h', toks := tk } ∧ Keep [L, it] s₀.heap h' ∧ h₀.StaysIn h' ∧ gnext ns (gst ns (N - n)) = .stop ∧ r = .ok (.ret .none)
section
variable {w : World} {mg mb : Str → Option Value} {h₀ : Heap} {A : Around} {L it l : Addr} {vs : List Value} {ns : List Int} {N : Nat}
set_option maxHeartbeats 2000000
noncomputable def whileOf (s : Stmt) : Stmt := (stB s).getD 1 (.Pass default)
noncomputable def whT (s : Stmt) : Expr := stE s
noncomputable def whB (s : Stmt) : List Stmt := stB s
noncomputable def gWh : Stmt := whileOf (gTurn.getD 1 (.Pass default))
theorem ns_obj' {h : Heap} {m : Str → Option Value} (x : h.Ns L m) : ∃ o, h.get? L = some o ∧ ∀ h' : Heap, h'.get? L = some o → h'.Ns L m := by
  refine hideP fun G9 hG9 => ?_
  obtain ⟨o, es, ep, e, r⟩ := x
  refine hG9 ?_
  clear hG9
  exact ⟨o, e, fun h' e' => ⟨o, es, ep, e', r⟩⟩
theorem it_obj' {h : Heap} {i : Nat} (x : h.IsListIter it l i) : ∃ o, h.get? it = some o ∧ ∀ h' : Heap, h'.get? it = some o → h'.IsListIter it l i := by
  obtain ⟨o, e, r⟩ := x
  exact ⟨o, e, fun h' e' => ⟨o, e', r⟩⟩
theorem seg_rep (G : Gnd w mg mb h₀) (hL : h₀.objs.size ≤ L) {fs : List Frame} (hfs : splitAtGen fs = none) (hfg : fs.any Frame.guarded = false) {v : Int} {t : Tok} : ∀ (n : Nat) (s₀ s : Shared) (m : Str → Option Value) (i : Nat),
    GAt h₀ L it l vs s₀.heap s.heap m i → (∃ h tk, s = { s₀ with heap := h, toks := tk }) → m "last_interval" = some (.int v t) → gnext ns (gst ns (N - (n + 1))) = .yld v (.rep v) → n + 1 ≤ N →
    Seg (model PG w) A (GR h₀ L it ns N) (GY h₀ L it l vs ns N) (n + 1) s₀ (.whileLoop (whT gWh) (whB gWh) [] (gEnv L)) ((model PG w).den (.whileLoop (whT gWh) (whB gWh) [] (gEnv L))) fs s := by
  intro n
  induction n using Nat.strongRecOn with
  | ind n ih =>
    intro s₀ s m i X hs hm hst hN
    have F := X.fr hL
    have e1 := Eq.refl (whT gWh)
    conv at e1 => rhs; whnf
    have e2 := Eq.refl (whB gWh)
    conv at e2 => rhs; whnf
    refine seg_whileLoop ?_
    rw [e1, e2] at ih ⊢
    iterate 3 walk1
    rw [if_pos rfl]
    refine seg_execs_cons ?_
    refine seg_Expr_Yield hfs rfl hfg ?_
    iterate 1 walk1
    intro κ hκ
    obtain ⟨h1, tk1, rfl⟩ := hs
    obtain ⟨oL, eL, nsL⟩ := ns_obj' X.ns
    obtain ⟨oit, eit, itL⟩ := it_obj' X.itr
    refine ⟨v, t, .rep v, h1, _, oL, oit, by rw [show N - 1 - n = N - (n + 1) from sb7, hst], rfl, rfl, X.kp, X.st, eL, eit, fun hn s'' st'' eL' eit' els' => hκ .none s'' ?_⟩
    obtain ⟨n', rfl⟩ : ∃ n', n = n' + 1 := ⟨n - 1, prS hn⟩
    refine seg_execs_nil (seg_again (by rfl) ?_)
    refine ih n' (Nat.lt_succ_self n') s'' s'' m i ⟨nsL _ eL', st'', Keep.refl _ _, itL _ eit', els'⟩ ⟨_, _, rfl⟩ hm ?_ (Nat.le_of_succ_le hN)
    rw [show N - (n' + 1) = (N - (n' + 1 + 1)) + 1 from subS hN, gst_succ, hst]
    rfl
end
end
theorem Again.at17 {M : Model} {A : Around} {env : Env} {Q : Flow → Shared → Prop} {E : Value → Shared → Prop} {s : Shared} (h : Q .next s) : wpAny M A (execs [] env) Q E s := by w_top off; walk1; exact h
section
open Sem (wp)
set_option maxRecDepth 100000
noncomputable def K1 : Flow → Sem Fin := fun f => .pure (.done (.ret (match f with | .ret v => v | _ => .none)))
noncomputable def H1 (env : Env) : Value → Sem Fin := fun e => (leaving env e).wrap (fun _ => .raise e) .raise id id
noncomputable def KF (env : Env) : Flow → Sem Fin := fun f => match f with
  | .next => (execs [] env).wrap K1 (H1 env) id id
  | f => K1 f
noncomputable abbrev gFr (L : Addr) (p : Pos) : Frame := .ret (backK (gEnv L) (KF (gEnv L)) (H1 (gEnv L)) id id) none (id false) (id []) (.func gBody (gEnv L)) p []
noncomputable def lastV (t : Tok) : Option Int → Value
  | none => .none
  | some v => .int v t
theorem gnext_none {ns : List Int} {i : Nat} {last : Option Int} (h : ns[i]? = none) : gnext ns (.run i last) = .stop := by simp only [gnext, h]
theorem gnext_max {ns : List Int} {i : Nat} {last : Option Int} (h : ns[i]? = some 127) : gnext ns (.run i last) = .stop := by simp only [gnext, h, if_pos]
theorem gnext_zero {ns : List Int} {i : Nat} {v : Int} (h : ns[i]? = some 0) : gnext ns (.run i (some v)) = .yld v (.rep v) := by simp only [gnext, h]; rfl
theorem gnext_fail {ns : List Int} {i : Nat} (h : ns[i]? = some 0) : gnext ns (.run i none) = .fail := by simp only [gnext, h]; rfl
theorem gnext_plain {ns : List Int} {i : Nat} {x : Int} {last : Option Int} (h : ns[i]? = some x) (h1 : x ≠ 127) (h2 : x ≠ 0) : gnext ns (.run i last) = .yld x (.run (i + 1) (some x)) := by simp only [gnext, h, if_neg h1, if_neg h2]
section
variable {w : World} {mg mb : Str → Option Value} {h₀ : Heap} {A : Around} {L it l : Addr} {vs : List Value} {ns : List Int} {N : Nat}
set_option maxHeartbeats 2000000
theorem seg_repG (G : Gnd w mg mb h₀) (hL : h₀.objs.size ≤ L) {fs : List Frame} {v : Int} {t : Tok} {n : Nat} {s₀ s : Shared} {m : Str → Option Value} {i : Nat} {T : Expr} {B : List Stmt} (e1 : whT gWh = T) (e2 : whB gWh = B)
    (hfs : splitAtGen fs = none) (hfg : fs.any Frame.guarded = false) (hN : n + 1 ≤ N) (X : GAt h₀ L it l vs s₀.heap s.heap m (i + 1)) (hs : ∃ h tk, s = { s₀ with heap := h, toks := tk }) (hm : m "last_interval" = some (.int v t)) (hst : gst ns (N - (n + 1)) = .run i (some v)) (hv : ns[i]? = some 0) :
    Seg (model PG w) A (GR h₀ L it ns N) (GY h₀ L it l vs ns N) (n + 1) s₀ (.whileLoop T B [] (gEnv L)) ((model PG w).den (.whileLoop T B [] (gEnv L))) fs s := by
  subst e1 e2
  exact seg_rep G hL hfs hfg n s₀ s m (i + 1) X hs hm (by rw [hst]; exact gnext_zero hv) hN
theorem seg_main (G : Gnd w mg mb h₀) (hh : A.handled = none) (hL : h₀.objs.size ≤ L) (hit : h₀.get? it = none) (o1 : it ≠ L) (o2 : l ≠ L) (o3 : l ≠ it) (hvs : IntsAre vs ns) (hnf : ∀ j, gnext ns (gst ns j) ≠ .fail) {p : Pos} : ∀ (n : Nat) (s₀ s : Shared) (m : Str → Option Value) (i : Nat) (last : Option Int) (tl : Tok),
    GAt h₀ L it l vs s₀.heap s.heap m i → (∃ h tk, s = { s₀ with heap := h, toks := tk }) → m "last_interval" = some (lastV tl last) → gst ns (N - (n + 1)) = .run i last → n + 1 ≤ N →
    Seg (model PG w) A (GR h₀ L it ns N) (GY h₀ L it l vs ns N) (n + 1) s₀ (.forLoop (forT gFor) (.ref it) gTurn [] (gEnv L)) ((model PG w).den (.forLoop (forT gFor) (.ref it) gTurn [] (gEnv L))) [gFr L p] s := by
  intro n
  induction n using Nat.strongRecOn with
  | ind n ih =>
    intro s₀ s m i last tl X hs hm hst hN
    have XK := G.k
    obtain ⟨me, TT⟩ := G.t
    have e1 := Eq.refl (forT gFor)
    conv at e1 => rhs; whnf
    refine seg_forLoop ?_ (by rw [e1]; intro _; rfl)
    obtain ⟨h1, tk1, rfl⟩ := hs
    cases hv : ns[i]? with
    | none =>
      have hv' : vs.toArray[i]? = none := by
        rw [List.getElem?_toArray, List.getElem?_eq_none_iff]
        have := hvs.length
        have := List.getElem?_eq_none_iff.mp hv
        walk_at "om"
      refine wpAny_pyNext_list_end (by exact hh) X.itr X.ls hv' fun h₂ he => ?_
      refine seg_again (by rfl) (seg_block_nil (seg_leaf (.ok .next) ?_))
      refine seg_end (.ok (.ret .none)) ⟨h₂, _, rfl, fun b o n e => he b o (fun q => n (by simp [q])) (X.kp b o n e), fun b o e => he b o (fun q => by rw [q, hit] at e; cases e) (X.st b o e), ?_, rfl⟩
      rw [hst]; exact gnext_none hv
    | some x =>
      obtain ⟨tx, hx⟩ := hvs.get i x hv
      have hv' : vs.toArray[i]? = some (.int x tx) := by rw [List.getElem?_toArray]; exact hx
      refine wpAny_pyNext_list_item X.itr X.ls hv' fun h₂ hi₂ hs₂ => ?_
      have X2 := X.nxt hi₂ hs₂ hit o1 o3
      rw [e1]
      refine wpAny_assign_Name (wpAny_storeName_local (by rfl) X2.ns (fun h₃ hn₃ hs₃ => ?_) (by rfl))
      have X3 := X2.set hn₃ hs₃ hL o1 o2
      have F := X3.fr hL
      have e2 := Eq.refl gTurn
      conv at e2 => rhs; whnf
      rw [← e1]
      rw [e2]
      refine seg_execs_cons (seg_exec ?_)
      iterate 5 walk1
      have hj : N - 1 - n = N - (n + 1) := sb7
      by_cases hx1 : x = 127
      · rw [show (x == 127) = true from by rw [hx1]; rfl]
        iterate 5 walk1
        refine seg_leaf (.ok (.ret .none)) ?_
        refine seg_end (.ok (.ret .none)) ⟨_, _, rfl, X3.kp, X3.st, ?_, rfl⟩
        rw [hst]; exact gnext_max (hx1 ▸ hv)
      rw [show (x == 127) = false from beq_eq_false_iff_ne.mpr hx1]
      iterate 4 walk1
      refine seg_execs_cons (seg_If ?_)
      iterate 5 walk1
      by_cases hx0 : x = 0
      · subst hx0
        rw [if_pos (show ((0 : Int) == 0) = true from rfl)]
        cases last with
        | none => exact absurd (hst ▸ gnext_fail hv) (hnf _)
        | some v =>
        refine seg_execs_cons (seg_exec ?_)
        have hm' : m "last_interval" = some (.int v tl) := hm
        iterate 9 walk1
        refine seg_execs_cons (seg_While fun p' => ?_)
        have f1 := Eq.refl (whT gWh)
        conv at f1 => rhs; whnf
        have f2 := Eq.refl (whB gWh)
        conv at f2 => rhs; whnf
        refine seg_repG G hL (v := v) (t := tl) f1 f2 (by rfl) (by rfl) hN X3 ⟨_, _, rfl⟩ (lk_ne (by decide) hm') hst hv
      · rw [show (x == 0) = false from beq_eq_false_iff_ne.mpr hx0]
        rw [if_neg (by decide)]
        refine seg_execs_nil (seg_execs_cons ?_)
        refine seg_Expr_Yield (by rfl) rfl (by rfl) ?_
        iterate 1 walk1
        intro κ hκ
        obtain ⟨oL, eL, nsL⟩ := ns_obj' X3.ns
        obtain ⟨oit, eit, itL⟩ := it_obj' X3.itr
        refine ⟨x, tx, .run (i + 1) (some x), h₃, _, oL, oit, by rw [hj, hst]; exact gnext_plain hv hx1 hx0, rfl, rfl, X3.kp, X3.st, eL, eit, fun hn s'' st'' eL' eit' els' => hκ .none s'' ?_⟩
        obtain ⟨n', rfl⟩ : ∃ n', n = n' + 1 := ⟨n - 1, prS hn⟩
        refine seg_execs_cons (seg_exec ?_)
        have X4 : GAt h₀ L it l vs s''.heap s''.heap _ (i + 1) := ⟨nsL _ eL', st'', Keep.refl _ _, itL _ eit', els'⟩
        have F4 := X4.fr hL
        iterate 2 walk1
        refine wpAny_storeName_local (by rfl) X4.ns (fun h₅ hn₅ hs₅ => ?_) (by rfl)
        have X5 := X4.set hn₅ hs₅ hL o1 o2
        dsimp only
        refine seg_execs_nil (seg_again (by rfl) ?_)
        refine ih n' (Nat.lt_succ_self n') s'' _ _ (i + 1) (some x) tx X5 ⟨_, _, rfl⟩ (if_pos rfl) ?_ (Nat.le_of_succ_le hN)
        rw [show N - (n' + 1) = (N - (n' + 1 + 1)) + 1 from subS hN, gst_succ, hst, gnext_plain hv hx1 hx0]
end
end
theorem Again.at18 {M : Model} {A : Around} {env : Env} {Q : Flow → Shared → Prop} {E : Value → Shared → Prop} {s : Shared} (h : Q .next s) : wpAny M A (execs [] env) Q E s := by w_top off; walk1; exact h
section
open Sem (wp)
set_option maxRecDepth 100000
section
variable {w : World} {mg mb : Str → Option Value} {h₀ : Heap} {A : Around} {L it l : Addr} {vs : List Value} {ns : List Int}
set_option maxHeartbeats 2000000
theorem seg_fresh (G : Gnd w mg mb h₀) (hh : A.handled = none) (hL : h₀.objs.size ≤ L) (o2 : l ≠ L) (hvs : IntsAre vs ns) (hnf : ∀ j, gnext ns (gst ns j) ≠ .fail) {n : Nat} {s : Shared} {m : Str → Option Value} (hit : s.heap.objs.size = it) (st : h₀.StaysIn s.heap) (hns : s.heap.Ns L m) (hg : m "grouping" = some (.ref l)) (hl : s.heap.IsList l vs.toArray) :
    Seg (model PG w) A (GR h₀ L it ns (n + 1)) (GY h₀ L it l vs ns (n + 1)) (n + 1) s (.func gBody (gEnv L)) ((model PG w).den (.func gBody (gEnv L))) [] s := by
  have hLs : L < s.heap.objs.size := hns.lt
  have hls : l < s.heap.objs.size := by obtain ⟨o, e, _⟩ := hl; exact Heap.lt_size e
  have o1 : it ≠ L := fun q => by rw [q] at hit; rw [hit] at hLs; exact Nat.lt_irrefl _ hLs
  have o3 : l ≠ it := fun q => by rw [q] at hls; rw [hit] at hls; exact Nat.lt_irrefl _ hls
  have hit0 : h₀.get? it = none := by
    cases q : h₀.get? it with
    | none => rfl
    | some o => have := Heap.lt_size (st _ _ q); rw [hit] at this; exact absurd this (Nat.lt_irrefl _)
  have F : Fr h₀ L s.heap m := ⟨hns, st, hL⟩
  refine seg_func ?_
  have e := Eq.refl gBody
  conv at e => rhs; whnf
  rw [show execs gBody (gEnv L) = execs _ (gEnv L) from congrArg (fun b => execs b (gEnv L)) e]
  refine seg_execs_cons (seg_exec ?_)
  iterate 2 walk1
  refine wpAny_storeName_local (by rfl) hns (fun h₁ hn₁ hs₁ => ?_) (by rfl)
  dsimp only
  have F1 := F.set hn₁ hs₁
  have hl1 : h₁.IsList l vs.toArray := hl.at fun o e => (hs₁.2 _ o2).trans e
  refine seg_execs_cons (seg_For ?_)
  refine wpAny_Name (wpAny_loadName_local (by rfl) (by rfl) hn₁ (lk_ne (by decide) hg) ?_) (by decide)
  refine wpAny_pyIter_list hl1 fun p => ?_
  have hsz : h₁.objs.size = it := by rw [hs₁.1]; exact hit
  dsimp only
  rw [hsz]
  refine seg_main G hh hL hit0 o1 o2 o3 hvs hnf n s _ (fun y => if y = "last_interval" then some Value.none else m y) 0 none s.toks ⟨?_, ?_, ?_, ?_, ?_⟩ ⟨_, _, rfl⟩ (if_pos rfl) ?_ (Nat.le_refl _)
  · exact hn₁.push _
  · exact fun b o e => Heap.get?_push_of_some _ (F1.keep b o e)
  · exact fun b o nm e => Heap.get?_push_of_some _ ((hs₁.2 b (fun q => nm (by rw [show b = L from q]; exact List.mem_cons_self))).trans e)
  · exact ⟨_, Heap.get?_push_at (by rw [hsz]) rfl, rfl, rfl⟩
  · exact hl1.push _
  · rw [Nat.sub_self]; rfl
structure GenOn (w : World) (A : Around) (h₀ : Heap) (L it l : Addr) (vs : List Value) (ns : List Int) (N n : Nat) (gs : GenState) (oL oit : Obj) : Prop where
  bare : gs.bare = true
  go : ∀ s'' : Shared, h₀.StaysIn s''.heap → s''.heap.get? L = some oL → s''.heap.get? it = some oit → s''.heap.IsList l vs.toArray →
    gs.Goes (model PG w) A (GR h₀ L it ns N) (GY h₀ L it l vs ns N) n (.send .none) s''
noncomputable abbrev genObj (g : Nat) (t t' : Tok) : Obj := { cls := .type "generator", data := .fields #[.int g 0, .str "_grouping_intervals" t, .str "_grouping_intervals" t'] }
theorem isGen_of {h : Heap} {a : Addr} {g : Nat} {t t' : Tok} (e : h.get? a = some (genObj g t t')) : h.IsGen a g := ⟨_, _, _, e, rfl, rfl, rfl⟩
theorem call_gen {R : Result → Shared → Prop} {s : Shared} (G : Gnd w mg mb h₀) (st : h₀.StaysIn s.heap) (hroom : A.depth < 900)
    (h : ∀ h' tk t t' oL, Keep [] s.heap h' → h'.get? s.heap.objs.size = some oL → (∀ h'' : Heap, h''.get? s.heap.objs.size = some oL → h''.Ns s.heap.objs.size (fun y => [((Str.ofString "grouping"), Value.ref l)].reverse.lookup y)) → h'.get? (s.heap.objs.size + 1) = some (genObj s.gens.size t t') →
      R (.ok (.ret (.ref (s.heap.objs.size + 1)))) { s with heap := h', toks := tk, gens := s.gens.push (.fresh (.func gBody (gEnv s.heap.objs.size))) }) :
    codeAny (model PG w) A (.call (.ref 45) ⟨[.ref l], []⟩) R s := by
  have XK := G.k.keeps st
  obtain ⟨me, TT⟩ := G.t
  refine codeAny_call_generator (body := gBody) (by show A.depth < 1000; walk_at "om") (XK 45 _ (by with_unfolding_all rfl)) rfl rfl rfl rfl (codeRec_of XK (by with_unfolding_all rfl)) ?_
  refine (BindsTo.of_eq (binds := [("grouping", .ref l)]) rfl) _ _ _ _ ?_
  refine wpAny_newFunctionEnv (by decide) (by exact locs rfl) (fun h' hn' hs' => ⟨(TT.nolimit.keeps st).fresh _ hs', ?_⟩) rfl
  have hsz : h'.objs.size = s.heap.objs.size + 1 := by rw [hs'.1, Heap.size_push]
  obtain ⟨oL, eL, nsL⟩ := ns_obj' hn'
  have keep' : ∀ b o, s.heap.get? b = some o → h'.get? b = some o := fun b o e => hs'.extBut b o (Nat.ne_of_lt (Heap.lt_size e)) (Heap.get?_push_of_some _ e)
  have := h (h'.push (genObj s.gens.size (s.toks + 1) (s.toks + 1 + 1))) (s.toks + 1 + 1 + 1) (s.toks + 1) (s.toks + 1 + 1) oL (Keep.of_all fun b o e => Heap.get?_push_of_some _ (keep' b o e)) (Heap.get?_push_of_some _ eL) nsL (Heap.get?_push_at (by rw [hsz]) rfl)
  dsimp only at this ⊢
  rw [hsz]
  exact this
end
end
section
open Sem (wp)
set_option maxRecDepth 100000
theorem not_stop : isSubtype (.type "ValueError") (.type "StopIteration") = pure false := by rfl
section
variable {w : World} {A : Around} {E : Value → Shared → Prop} {s : Shared}
set_option maxHeartbeats 2000000
theorem next_gen {R : GenEnd} {Y : Protocol} {a : Addr} {g n : Nat} {gs : GenState} {Q : Option Value → Shared → Prop} {t t' : Tok} (hh : A.handled = none)
    (hl : s.heap.NoLimit) (hroom : A.depth < recursionLimit) (hg : s.heap.get? a = some (genObj g t t')) (hgs : s.gens[g]? = some gs)
    (hgo : gs.Goes (model PG w) A.in1 R Y n (.send .none) (s.setGen g .running))
    (hY : ∀ v s₁ gs', gs'.bare = true → Y (n - 1) (s.setGen g .running) v s₁ (fun r' s'' => match n with
        | 0 => False
        | m + 1 => gs'.Goes (model PG w) A.in1 R Y m r' s'') → Q (some v) (s₁.setGen g gs'))
    (hE : ∀ r s₁, R n (s.setGen g .running) r s₁ → (r = .ok (.ret .none) ∧ ∀ h', (∀ b o, s₁.heap.get? b = some o → h'.get? b = some o) → Q none { s₁.setGen g .finished with heap := h' }) ∨
      (∃ e, r = .error (.ref e) ∧ s₁.TypeIs (.ref e) "ValueError" ∧ s₁.heap.get? a = some (genObj g t t') ∧ E (.ref e) (s₁.setGen g .finished))) :
    wpAny (model PG w) A (pyNext (.ref a)) Q E s := by
  have ig := isGen_of hg
  unfold pyNext
  refine wpAny_bind (wpAny_attempt (wpAny_callSpecial?_slot (name := Str.ofString "__next__") ig.typeIs slot_gen_next
    (wpAny_call_entry slot_gen_next ig.typeIs entry_gen_next ?_ (args_gen_next _))))
  show wpAny _ A.in1 (Builtin.Generator.genWake (.ref a) (.send .none)) _ _ s
  unfold Builtin.Generator.genWake
  refine wpAny_bind (wpAny_holding (wpAny_genNumber ig (wpAny_bind (wpAny_genState hgs ?_))))
  cases gs with
  | running => exact hgo.elim
  | finished => exact hgo.elim
  | _ =>
    refine wpAny_bind (wpAny_roomToWake hl hroom ?_)
    show wpAny _ A.in1 (.resume g (.send .none) [] _) _ _ s
    refine wpAny_resumeQ hgs hgo (fun x s₁ hx => ?_) (fun v s₁ gs' hb hv => ?_)
    · rcases hE x s₁ hx with ⟨rfl, hQ⟩ | ⟨e, rfl, ht, ha, hQ⟩
      · show wpAny _ A.in1 (newExc (.type "StopIteration") [] >>= _) _ _ _
        refine wpAny_bind ?_
        simp only [newExc, newTuple]
        refine wpAny_bind (wpAny_newObj_type ?_ (by size_fits))
        refine wpAny_bind (m := firstArgMember _ _) (wpAny_of_eq (a := Value.none) (by first | rfl | (simp only [firstArgMember]; rfl)) ?_)
        refine wpAny_newObj_type ?_ (by size_fits)
        simp only [raiseNew]
        refine wpAny_bind (wpAny_bind (wpAny_handled ?_))
        rw [show A.in1.handled = none from hh]
        refine wpAny_throw ?_
        refine wpAny_bind (wpAny_isInstance (T := "StopIteration") (b := true) ⟨_, Heap.get?_push_size _ rfl, rfl⟩ isSubtype_stop ?_)
        exact wpAny_pure (hQ _ fun b o hb => Heap.get?_push_of_some _ (Heap.get?_push_of_some _ hb))
      · show wpAny _ A.in1 (Builtin.Generator.genLeft (.ref a) (.ref e)) _ _ _
        unfold Builtin.Generator.genLeft Builtin.Generator.madeByALambda
        refine wpAny_bind (wpAny_bind (wpAny_load (o := genObj g t t') ha (wpAny_pure ?_)))
        refine wpAny_bind (wpAny_isInstance (T := "ValueError") (b := false) ht not_stop ?_)
        rw [if_neg (by rw [Bool.and_false]; decide)]
        unfold Builtin.Generator.genEscaped
        refine wpAny_bind (wpAny_isInstance (T := "ValueError") (b := false) ht not_stop ?_)
        rw [if_pos (by rfl)]
        refine wpAny_throw ?_
        refine wpAny_bind (wpAny_isInstance (T := "ValueError") (b := false) ht not_stop ?_)
        rw [if_neg (by decide)]
        exact wpAny_throw hQ
    · exact wpAny_pure ⟨v, rfl, wpAny_pure (hY v s₁ gs' hb hv)⟩
theorem bare_two {s s₁ : Shared} {g : Nat} {x y : GenState} (hx : x.bare = true) (hy : y.bare = true) (e : s₁.gens = (s.setGen g x).gens) (h : AllBare s.gens) : AllBare (s₁.setGen g y).gens := by
  intro z hz
  obtain ⟨i, hi, rfl⟩ := Array.mem_iff_getElem.mp hz
  by_cases q : i = g
  · subst q
    have : (s₁.setGen i y).gens[i] = y := by simp [Shared.setGen]
    rw [this]; exact hy
  · have h1 : (s₁.setGen g y).gens[i]? = s.gens[i]? := by
      have := (GenOnly.setGen s₁ g y).2 i q
      rw [this, e]
      exact (GenOnly.setGen s g x).2 i q
    rw [Array.getElem?_eq_getElem hi] at h1
    obtain ⟨hi', e'⟩ := Array.getElem?_eq_some_iff.mp h1.symm
    exact e' ▸ h _ (Array.getElem_mem hi')
theorem setGen_at {s s₁ : Shared} {g : Nat} {gs x y : GenState} (h : s.gens[g]? = some gs) (e : s₁.gens = (s.setGen g x).gens) : (s₁.setGen g y).gens[g]? = some y := by
  have h1 := setGen_self (x := x) h
  rw [← e] at h1
  exact setGen_self h1
variable {h₀ : Heap} {L it l : Addr} {vs : List Value} {ns : List Int}
theorem next_core {a : Addr} {g N n : Nat} {gs : GenState} {Q : Option Value → Shared → Prop} {t t' : Tok} (hh : A.handled = none)
    (hl : s.heap.NoLimit) (hroom : A.depth < recursionLimit) (hg : s.heap.get? a = some (genObj g t t')) (hgs : s.gens[g]? = some gs) (hgb : gs.bare = true)
    (hgo : gs.Goes (model PG w) A.in1 (GR h₀ L it ns N) (GY h₀ L it l vs ns N) (n + 1) (.send .none) (s.setGen g .running))
    (hY : ∀ x t st' h' tk oL oit gs' gens', gnext ns (gst ns (N - (n + 1))) = .yld x st' → Keep [L, it] s.heap h' → h₀.StaysIn h' → h'.get? L = some oL → h'.get? it = some oit →
      (0 < n → GenOn w A.in1 h₀ L it l vs ns N n gs' oL oit) → gs'.bare = true → gens'[g]? = some gs' → (AllBare s.gens → AllBare gens') → Q (some (.int x t)) { s with heap := h', toks := tk, gens := gens' })
    (hP : ∀ h' tk gens', gnext ns (gst ns (N - (n + 1))) = .stop → Keep [L, it] s.heap h' → h₀.StaysIn h' → (AllBare s.gens → AllBare gens') → Q none { s with heap := h', toks := tk, gens := gens' }) :
    wpAny (model PG w) A (pyNext (.ref a)) Q E s := by
  refine next_gen hh hl hroom hg hgs hgo (fun v s₁ gs' hb hv => ?_) (fun r s₁ hr => .inl ?_)
  · refine hideP fun G9 hG9 => ?_
    obtain ⟨x, tx, st', h', tk, oL, oit, hn, rfl, rfl, hk, hst, eL, eit, hκ⟩ := hv
    refine hG9 ?_
    clear hG9
    rw [show n + 1 - 1 = n from rfl, show N - 1 - n = N - (n + 1) by (first | lia | omega)] at hn
    refine hY x tx st' h' tk oL oit gs' _ hn hk hst eL eit (fun h0 => ⟨hb, fun s'' st'' eL' eit' els' => ?_⟩) hb (setGen_at (s₁ := { (s.setGen g .running) with heap := h', toks := tk }) hgs rfl) (bare_two (s₁ := { (s.setGen g .running) with heap := h', toks := tk }) rfl hb rfl)
    exact hκ h0 s'' st'' eL' eit' els'
  · refine hideP fun G9 hG9 => ?_
    obtain ⟨h', tk, rfl, hk, hst, hn, rfl⟩ := hr
    refine hG9 ?_
    clear hG9
    refine ⟨rfl, fun h'' hk'' => ?_⟩
    exact hP h'' tk _ hn (fun b o nm e => hk'' _ _ (hk b o nm e)) (fun b o e => hk'' _ _ (hst b o e)) (bare_two (s₁ := { (s.setGen g .running) with heap := h', toks := tk }) rfl rfl rfl)
end
end
section
open Sem (wp)
set_option maxRecDepth 100000
noncomputable def GenOwn (w : World) (A : Around) (h₀ : Heap) (Lg l : Addr) (vs : List Value) (ns : List Int) (N n : Nat) (own : List (Addr × Obj)) (gs : GenState) : Prop :=
  (∃ oL, own = [(Lg, oL)] ∧ gs = .fresh (.func gBody (gEnv Lg)) ∧ n = N ∧ ∀ h : Heap, h.get? Lg = some oL → h.Ns Lg (fun y => [((Str.ofString "grouping"), Value.ref l)].reverse.lookup y)) ∨
  (∃ it oL oit, own = [(Lg, oL), (it, oit)] ∧ GenOn w A.in1 h₀ Lg it l vs ns N n gs oL oit)
section
variable {w : World} {mg mb : Str → Option Value} {A : Around} {E : Value → Shared → Prop} {s : Shared} {h₀ : Heap} {Lg l : Addr} {vs : List Value} {ns : List Int}
set_option maxHeartbeats 2000000
theorem next_own (G : Gnd w mg mb h₀) (hh : A.handled = none) (hroom : A.depth < 900) (hL : h₀.objs.size ≤ Lg) (o2 : l ≠ Lg) (hvs : IntsAre vs ns) (hnf : ∀ j, gnext ns (gst ns j) ≠ .fail) (st : h₀.StaysIn s.heap)
    {a : Addr} {g N n : Nat} {gs : GenState} {own : List (Addr × Obj)} {Q : Option Value → Shared → Prop} {t t' : Tok} (O : GenOwn w A h₀ Lg l vs ns N (n + 1) own gs) (hown : ∀ p ∈ own, s.heap.get? p.1 = some p.2) (hl : s.heap.IsList l vs.toArray)
    (hg : s.heap.get? a = some (genObj g t t')) (hgs : s.gens[g]? = some gs)
    (hY : ∀ x t st' h' tk own' gs' gens', gnext ns (gst ns (N - (n + 1))) = .yld x st' → Keep (own.map (·.1)) s.heap h' → (∀ p ∈ own', h'.get? p.1 = some p.2) → (∀ p ∈ own', p.1 ∈ own.map (·.1) ∨ s.heap.get? p.1 = none) →
      (0 < n → GenOwn w A h₀ Lg l vs ns N n own' gs') → gens'[g]? = some gs' → (AllBare s.gens → AllBare gens') → Q (some (.int x t)) { s with heap := h', toks := tk, gens := gens' })
    (hP : ∀ h' tk gens', gnext ns (gst ns (N - (n + 1))) = .stop → Keep (own.map (·.1)) s.heap h' → (AllBare s.gens → AllBare gens') → Q none { s with heap := h', toks := tk, gens := gens' }) :
    wpAny (model PG w) A (pyNext (.ref a)) Q E s := by
  obtain ⟨me, TT⟩ := G.t
  have hnl := TT.nolimit.keeps st
  rcases O with ⟨oL, rfl, rfl, rfl, hns⟩ | ⟨it, oL, oit, rfl, X⟩
  · have eL := hown _ (.head _)
    have shrink : ∀ h' : Heap, Keep [Lg, s.heap.objs.size] s.heap h' → Keep [Lg] s.heap h' := fun h' k b o nm e => k b o (by
      intro q
      rcases List.mem_cons.mp q with q | q
      · exact nm (by rw [q]; exact List.mem_cons_self)
      · have := Heap.lt_size e
        rw [List.mem_singleton.mp q] at this
        exact Nat.lt_irrefl _ this) e
    refine next_core (h₀ := h₀) (L := Lg) (it := s.heap.objs.size) (l := l) (vs := vs) (ns := ns) (N := n + 1) (n := n) hh hnl (by show A.depth < 1000; (first | lia | omega)) hg hgs rfl ⟨rfl, ?_⟩ (fun x t st' h' tk oL' oit gs' gens' hn hk hst eL' eit hO hb hgs' hab => ?_) (fun h' tk gens' hn hk hst hab => ?_)
    · exact seg_fresh (A := A.in1) (s := s.setGen g .running) G hh hL o2 hvs hnf rfl st (hns _ eL) (by rfl) hl
    · refine hY x t st' h' tk [(Lg, oL'), (s.heap.objs.size, oit)] gs' gens' hn (shrink _ hk) (List.forall_mem_cons.mpr ⟨eL', List.forall_mem_cons.mpr ⟨eit, List.forall_mem_nil _⟩⟩) ?_ (fun h0 => .inr ⟨_, _, _, rfl, hO h0⟩) hgs' hab
      exact List.forall_mem_cons.mpr ⟨.inl (List.mem_cons_self), List.forall_mem_cons.mpr ⟨.inr (Heap.get?_none_of_le (Nat.le_refl _)), List.forall_mem_nil _⟩⟩
    · exact hP h' tk gens' hn (shrink _ hk) hab
  · have eL := hown _ (.head _)
    have eit := hown _ (.tail _ (.head _))
    refine next_core (h₀ := h₀) (L := Lg) (it := it) (l := l) (vs := vs) (ns := ns) (N := N) (n := n) hh hnl (by show A.depth < 1000; (first | lia | omega)) hg hgs X.bare (X.go _ st eL eit hl) (fun x t st' h' tk oL' oit gs' gens' hn hk hst eL' eit hO hb hgs' hab => ?_) (fun h' tk gens' hn hk hst hab => ?_)
    · refine hY x t st' h' tk [(Lg, oL'), (it, oit)] gs' gens' hn hk (List.forall_mem_cons.mpr ⟨eL', List.forall_mem_cons.mpr ⟨eit, List.forall_mem_nil _⟩⟩) ?_ (fun h0 => .inr ⟨_, _, _, rfl, hO h0⟩) hgs' hab
      exact List.forall_mem_cons.mpr ⟨.inl (List.mem_cons_self), List.forall_mem_cons.mpr ⟨.inl (List.mem_cons_of_mem _ (List.mem_cons_self)), List.forall_mem_nil _⟩⟩
    · exact hP h' tk gens' hn hk hab
end
end
section
set_option maxRecDepth 100000
noncomputable def moreOf (x : Str) : Str := Txt.slice x none (some (↑x.length - ↑(Txt.lstripChars x (Str.ofString ".")).length)) ++ Str.ofString "."
noncomputable def afterW (x : Str) : List Str → List Str
  | [] => []
  | y :: r => if y = x then r else afterW x r
theorem afterW_cons (x y : Str) (r : List Str) : afterW x (y :: r) = if y = x then r else afterW x r := rfl
noncomputable def freeOf (words wait : List Str) (x : Str) : Bool := freeW (moreOf x) wait (afterW x words)
noncomputable def hourGo (words wait : List Str) : List Str → Int → List Str
  | [], _ => []
  | x :: r, z => if 0 < z ∧ freeOf words wait x = true then hourGo words wait r (z - 1) else x :: hourGo words wait r z
theorem hourGo_nil (words wait : List Str) (z : Int) : hourGo words wait [] z = [] := rfl
theorem hourGo_cons (words wait : List Str) (x : Str) (r : List Str) (z : Int) : hourGo words wait (x :: r) z = if 0 < z ∧ freeOf words wait x = true then hourGo words wait r (z - 1) else x :: hourGo words wait r z := rfl
noncomputable def hoursF (words : List Str) (ns : List Int) : Nat → Nat → List Str → Nat × List Str
  | 0, j, wait => (j, wait)
  | f + 1, j, wait => match gnext ns (gst ns j) with
    | .yld z _ => if wait = [] ∨ j = 20 then (j, wait) else hoursF words ns f (j + 1) (hourGo words wait wait z)
    | _ => (j, wait)
theorem hoursF_succ (words : List Str) (ns : List Int) (f j : Nat) (wait : List Str) : hoursF words ns (f + 1) j wait = match gnext ns (gst ns j) with
    | .yld z _ => if wait = [] ∨ j = 20 then (j, wait) else hoursF words ns f (j + 1) (hourGo words wait wait z)
    | _ => (j, wait) := rfl
theorem afterW_at : ∀ (ws : List Str) (x : Str), x ∈ ws → ∃ j, ∃ h : j < ws.length, ws[j] = x ∧ (∀ i (hi : i < ws.length), i < j → ws[i] ≠ x) ∧ afterW x ws = ws.drop (j + 1)
  | [], x, h => by cases h
  | y :: r, x, h => by
    by_cases e : y = x
    · exact ⟨0, Nat.zero_lt_succ _, e, fun i hi hlt => absurd hlt (Nat.not_lt_zero _), by rw [afterW_cons, if_pos e]; rfl⟩
    · obtain ⟨j, hj, e1, e2, e3⟩ := afterW_at r x (by rcases List.mem_cons.mp h with rfl | h; exact absurd rfl e; exact h)
      refine ⟨j + 1, Nat.succ_lt_succ hj, e1, fun i hi hlt => ?_, by rw [afterW_cons, if_neg e, e3]; rfl⟩
      cases i with
      | zero => exact e
      | succ i => exact e2 i (Nat.lt_of_succ_lt_succ hi) (Nat.lt_of_succ_lt_succ hlt)
theorem hourGo_sub {words wait : List Str} : ∀ (l : List Str) (z : Int), ∀ x ∈ hourGo words wait l z, x ∈ l
  | [], _, x, h => by cases h
  | y :: r, z, x, h => by
    rw [hourGo_cons] at h
    split at h
    · exact .tail _ (hourGo_sub r _ x h)
    · rcases List.mem_cons.mp h with rfl | h
      · exact .head _
      · exact .tail _ (hourGo_sub r _ x h)
theorem hourGo_len {words wait : List Str} : ∀ (l : List Str) (z : Int), (hourGo words wait l z).length ≤ l.length
  | [], _ => Nat.le_refl _
  | y :: r, z => by
    rw [hourGo_cons]
    split
    · exact Nat.le_succ_of_le (hourGo_len r _)
    · exact Nat.succ_le_succ (hourGo_len r _)
theorem lex_back {P : Params} {X : LX} {n' : Int} {pend : List (Str × Tok)} {signs : List (Nat × Tok)} {g h h' : Heap} {L : Addr} {m : Str → Option Value} {l pre rest : List (Addr × Obj)} {LA : List Addr} (hLA : l.map (·.1) = LA) (hL : L ∉ LA) (F : Fr g L h m) (N : News g L h (pre ++ (l ++ rest)))
    (s1 : ∀ p ∈ pre, p.1 ∉ LA) (s2 : ∀ p ∈ rest, p.1 ∉ LA) (B : LexBack P X n' pend signs l h h') : ∃ l', IsLex P X n' pend signs l' ∧ l'.map (·.1) = LA ∧ Fr g L h' m ∧ News g L h' (pre ++ (l' ++ rest)) := by
  obtain ⟨l', il, hv, hm, kb⟩ := B
  rw [hLA] at kb
  have hg : ∀ a ∈ LA, g.get? a = none := fun a ha => by
    rw [← hLA] at ha
    obtain ⟨p, hp, rfl⟩ := List.mem_map.mp ha
    exact (N p (List.mem_append_right _ (List.mem_append_left _ hp))).2.2
  refine ⟨l', il, hm.trans hLA, Fr.after F kb hL hg, fun p hp => ?_⟩
  rcases List.mem_append.mp hp with hp | hp
  · exact ⟨kb _ _ (s1 p hp) (N p (List.mem_append_left _ hp)).1, (N p (List.mem_append_left _ hp)).2⟩
  · rcases List.mem_append.mp hp with hp | hp
    · have : p.1 ∈ l.map (·.1) := hm ▸ List.mem_map_of_mem hp
      obtain ⟨q, hq, e⟩ := List.mem_map.mp this
      have := (N q (List.mem_append_right _ (List.mem_append_left _ hq))).2
      exact ⟨hv p hp, e ▸ this.1, e ▸ this.2⟩
    · have := N p (List.mem_append_right _ (List.mem_append_right _ hp))
      exact ⟨kb _ _ (s2 p hp) this.1, this.2⟩
theorem lex_led {g h : Heap} {L : Addr} {l pre rest : List (Addr × Obj)} (N : News g L h (pre ++ (l ++ rest))) : Led g h l := fun p hp => by
  have := N p (List.mem_append_right _ (List.mem_append_left _ hp))
  exact ⟨this.1, this.2.2⟩
end
theorem Again.at19 {M : Model} {A : Around} {env : Env} {Q : Flow → Shared → Prop} {E : Value → Shared → Prop} {s : Shared} (h : Q .next s) : wpAny M A (execs [] env) Q E s := by w_top off; walk1; exact h
section
set_option maxRecDepth 100000
noncomputable def hoDef : Stmt := (PySem.Challenge.rw_sl0005_01.row.prog.main.body).getD 18 (.Pass default)
noncomputable abbrev hEnv (L : Addr) : Env := envX "_law_hours" (defS hoDef) L 142 (.ref 141) (cellsFrom (L + 1) (defS hoDef).names [])
noncomputable def hoFor : Stmt := (defB hoDef).getD 3 (.Pass default)
noncomputable def hoIn : Stmt := (forB hoFor).getD 3 (.Pass default)
noncomputable def hoIf : Stmt := (forB hoIn).getD 1 (.Pass default)
inductive JH (P : Params) (wl al ll L : Addr) (oc : Obj) (X : LX) (ln : Int) (LA : List Addr) (ws wa : List (Str × Tok)) (rest : List (Addr × Obj)) (kw ka : Nat) (vh : Value) (z0 : Int) (i : Nat) (m' : Str → Option Value) (news' : List (Addr × Obj)) : Prop
  | mk (m1 : m' "words" = some (.ref wl)) (m2 : m' "waiting" = some (.ref al)) (m3 : m' "left" = some (.ref ll)) (m5 : m' "hours" = some vh) (z : Int) (tz : Tok) (lf : List (Str × Tok)) (kl' : Nat) (l' : List (Addr × Obj)) (m4 : m' "size" = some (.int z tz)) (hl : IsLex P X ln (wa.drop i ++ lf) [] l') (hm : l'.map (·.1) = LA) (hgo : hourGo (ws.map (·.1)) (wa.map (·.1)) (wa.map (·.1)) z0 = lf.map (·.1) ++ hourGo (ws.map (·.1)) (wa.map (·.1)) ((wa.drop i).map (·.1)) z) (hlf : ∀ p ∈ lf, p ∈ wa) (hli : lf.length ≤ i)
    (e : news' = (L + 1, oc) :: (wl, listOf (strValues ws).toArray kw) :: (al, listOf (strValues wa).toArray ka) :: (ll, listOf (strValues lf).toArray kl') :: (l' ++ rest))
section
variable {w : World} {mg mb : Str → Option Value} {g : Heap} {A : Around} {R : Result → Shared → Prop} {s : Shared} {E : Value → Shared → Prop}
set_option maxHeartbeats 4000000
theorem hours_else (G : Gnd w mg mb g) (hroom : A.depth < 700) (hh : A.handled = none) {L al ll wl it : Addr} {oc o0 : Obj} {X : LX} {ln : Int} {m : Str → Option Value} {ws wa lf pend : List (Str × Tok)} {kw ka kl : Nat} {l rest : List (Addr × Obj)} {LA : List Addr} {x : Str} {tx : Tok} {Q : Flow → Shared → Prop}
   (F : Fr g L s.heap m) (N : News g L s.heap ((it, o0) :: (L + 1, oc) :: (wl, listOf (strValues ws).toArray kw) :: (al, listOf (strValues wa).toArray ka) :: (ll, listOf (strValues lf).toArray kl) :: (l ++ rest)))
   (hoc : oc.data = .cell (some (.ref X.lx))) (hl : IsLex w.params X ln pend [] l) (hLA : l.map (·.1) = LA)
   (s0 : it ∉ LA) (s1 : L + 1 ∉ LA) (s2 : wl ∉ LA) (s3 : al ∉ LA) (s4 : ll ∉ LA) (s5 : ∀ p ∈ rest, p.1 ∉ LA)
   (q3 : @Ne Nat it ll) (q5 : @Ne Nat ll (L + 1)) (q6 : @Ne Nat ll wl) (q7 : @Ne Nat ll al) (q8 : ∀ p ∈ rest, p.1 ≠ ll) (hz : pend.length ≤ 20) (hz2 : lf.length ≤ 20)
   (m3 : m "left" = some (.ref ll)) (m4 : m "word" = some (.str x tx))
   (hQ : ∀ h' tk l' kl', IsLex w.params X ln (pend ++ [(x, tx)]) [] l' → l'.map (·.1) = LA → Fr g L h' m → News g L h' ((it, o0) :: (L + 1, oc) :: (wl, listOf (strValues ws).toArray kw) :: (al, listOf (strValues wa).toArray ka) :: (ll, listOf (strValues (lf ++ [(x, tx)])).toArray kl') :: (l' ++ rest)) →
      Q .next { s with heap := h', toks := tk }) :
   wpAny (model PG w) A (execs (ifElse hoIf) (hEnv L)) Q E s := by
  have XK := G.k
  obtain ⟨me, TT⟩ := G.t
  have hLL : L ∉ LA := fun q => by
    rw [← hLA] at q
    obtain ⟨p, hp, e⟩ := List.mem_map.mp q
    exact (N p (.tail _ (.tail _ (.tail _ (.tail _ (.tail _ (List.mem_append_left _ hp))))))).2.1 e
  have hsep : ∀ o1 o2 o3 o4 o5 : Obj, ∀ p ∈ [(it, o1), (L + 1, o2), (wl, o3), (al, o4), (ll, o5)], p.1 ∉ LA := fun o1 o2 o3 o4 o5 =>
    List.forall_mem_cons.mpr ⟨s0, List.forall_mem_cons.mpr ⟨s1, List.forall_mem_cons.mpr ⟨s2, List.forall_mem_cons.mpr ⟨s3, List.forall_mem_cons.mpr ⟨s4, List.forall_mem_nil _⟩⟩⟩⟩⟩
  have e1 := Eq.refl (ifElse hoIf)
  conv at e1 => rhs; whnf
  rw [e1]
  iterate 9 walk1
  (with_reducible rename Fr _ _ _ _ => F3)
  (with_reducible rename News _ _ _ _ => N3)
  refine append_K F3 N3 (.tail (neN q3) (.tail (neN q5.symm) (.tail (neN q6.symm) (.tail (neN q7.symm) (.head fun p hp => ?_))))) ?_ (by simp [strValues, sizeLine_eq]; walk_at "om")
  · rcases List.mem_append.mp hp with hp | hp
    · exact fun q => s4 (by rw [← q, ← hLA]; exact List.mem_map_of_mem hp)
    · exact q8 p hp
  intro h4 F4 N4
  rw [push_str] at N4
  have hlo := hl
  refine hideP fun G9 hG9 => ?_
  obtain ⟨hnd, T, t1, U, pm, ctv, cob, oc2, vs2, tq, k1, k2, rfl, hc2, hoc2, hq2⟩ := hl
  refine hG9 ?_
  clear hG9
  simp only [List.cons_append, List.nil_append] at N4
  iterate 10 walk1
  (with_reducible rename Fr _ _ _ _ => F5)
  (with_reducible rename News _ _ _ _ => N5)
  refine wpAny_call (pushtok G (by exact F5.keep) (by walk_at "om") hlo (lex_led (pre := [_, _, _, _, _]) (rest := rest) N5) (by walk_at "om") fun h6 tk6 B6 => ?_)
  refine hideP fun G9 hG9 => ?_
  obtain ⟨l6, hl6, hm6, F6, N6⟩ := lex_back (pre := [_, _, _, _, _]) (rest := rest) hLA hLL F5 N5 (hsep _ _ _ _ _) s5 B6
  refine hG9 ?_
  clear hG9
  clear N5 F5 B6
  dsimp only
  iterate 1 walk1
  exact hQ _ _ _ _ hl6 hm6 F6 N6
theorem hours_inner (G : Gnd w mg mb g) (hroom : A.depth < 700) (hh : A.handled = none) {L al ll wl it : Addr} {oc : Obj} {X : LX} {ln : Int} {m : Str → Option Value} {ws wa : List (Str × Tok)} {kw ka kl : Nat} {l rest : List (Addr × Obj)} {LA : List Addr} {z0 : Int} {tz : Tok} {vh : Value}
   (F : Fr g L s.heap m) (N : News g L s.heap ((it, riObj 0 wa.length 1) :: (L + 1, oc) :: (wl, listOf (strValues ws).toArray kw) :: (al, listOf (strValues wa).toArray ka) :: (ll, listOf (strValues []).toArray kl) :: (l ++ rest)))
   (hoc : oc.data = .cell (some (.ref X.lx))) (hl : IsLex w.params X ln wa [] l) (hLA : l.map (·.1) = LA)
   (s0 : it ∉ LA) (s1 : L + 1 ∉ LA) (s2 : wl ∉ LA) (s3 : al ∉ LA) (s4 : ll ∉ LA) (s5 : ∀ p ∈ rest, p.1 ∉ LA)
   (q0 : @Ne Nat it (L + 1)) (q1 : @Ne Nat it wl) (q2 : @Ne Nat it al) (q3 : @Ne Nat it ll) (q4 : ∀ p ∈ rest, p.1 ≠ it) (q5 : @Ne Nat ll (L + 1)) (q6 : @Ne Nat ll wl) (q7 : @Ne Nat ll al) (q8 : ∀ p ∈ rest, p.1 ≠ ll)
   (hw : ws.length ≤ 8) (ha : wa.length ≤ 8) (hsub : ∀ p ∈ wa, p.1 ∈ ws.map (·.1)) (hz : ∀ p ∈ ws, p.1.cps.size ≤ 100)
   (m1 : m "words" = some (.ref wl)) (m2 : m "waiting" = some (.ref al)) (m3 : m "left" = some (.ref ll)) (m4 : m "size" = some (.int z0 tz)) (m5 : m "hours" = some vh)
   (hR : ∀ h' tk m' lf kl' l', IsLex w.params X ln lf [] l' → l'.map (·.1) = LA → lf.map (·.1) = hourGo (ws.map (·.1)) (wa.map (·.1)) (wa.map (·.1)) z0 → (∀ p ∈ lf, p ∈ wa) → Fr g L h' m' → News g L h' ((L + 1, oc) :: (wl, listOf (strValues ws).toArray kw) :: (al, listOf (strValues wa).toArray ka) :: (ll, listOf (strValues lf).toArray kl') :: (l' ++ rest)) →
      m' "words" = some (.ref wl) → m' "left" = some (.ref ll) → m' "hours" = some vh → R (.ok .next) { s with heap := h', toks := tk }) :
   codeAny (model PG w) A (.forLoop (forT hoIn) (.ref it) (forB hoIn) [] (hEnv L)) R s := by
  have XK := G.k
  obtain ⟨me, TT⟩ := G.t
  have hLL : L ∉ LA := fun q => by
    rw [← hLA] at q
    obtain ⟨p, hp, e⟩ := List.mem_map.mp q
    exact (N p (.tail _ (.tail _ (.tail _ (.tail _ (.tail _ (List.mem_append_left _ hp))))))).2.1 e
  have hsep : ∀ o1 o2 o3 o4 o5 : Obj, ∀ p ∈ [(it, o1), (L + 1, o2), (wl, o3), (al, o4), (ll, o5)], p.1 ∉ LA := fun o1 o2 o3 o4 o5 =>
    List.forall_mem_cons.mpr ⟨s0, List.forall_mem_cons.mpr ⟨s1, List.forall_mem_cons.mpr ⟨s2, List.forall_mem_cons.mpr ⟨s3, List.forall_mem_cons.mpr ⟨s4, List.forall_mem_nil _⟩⟩⟩⟩⟩
  have e1 := Eq.refl (forT hoIn)
  conv at e1 => rhs; whnf
  rw [e1]
  refine loopRange (by exact hh) (x0 := 0) (c := 1) (n := wa.length) (JH w.params wl al ll L oc X ln LA ws wa rest kw ka vh z0) F N ⟨m1, m2, m3, m5, z0, tz, [], kl, l, m4, by simpa using hl, hLA, rfl, (by intro p hp; cases hp), Nat.le_refl _, rfl⟩ ?_ ?_ ?_
  · rintro i m' news' ⟨_, _, _, _, z, tz, lf, kl', l', _, _, hm, _, _, _, rfl⟩ p hp
    rcases List.mem_cons.mp hp with rfl | hp
    · exact neN q0.symm
    rcases List.mem_cons.mp hp with rfl | hp
    · exact neN q1.symm
    rcases List.mem_cons.mp hp with rfl | hp
    · exact neN q2.symm
    rcases List.mem_cons.mp hp with rfl | hp
    · exact neN q3.symm
    rcases List.mem_append.mp hp with hp | hp
    · exact fun q => s0 (by rw [← q, ← hm]; exact List.mem_map_of_mem hp)
    · exact q4 p hp
  · rintro i t m' news' h' tk' Qt Et hT hE hlt ⟨m1, m2, m3, m5, z, tz, lf, kl', l', m4, hl', hm', hgo, hlf, hlfi, rfl⟩ F' N'
    obtain ⟨⟨x, tx⟩, hxe⟩ : ∃ p, wa[i]'hlt = p := ⟨_, rfl⟩
    have hdr : wa.drop i = (x, tx) :: wa.drop (i + 1) := by rw [List.drop_eq_getElem_cons hlt, hxe]
    have hxm : (x, tx) ∈ wa := hxe ▸ List.getElem_mem hlt
    rw [hdr, List.cons_append] at hl'
    rw [hdr, List.map_cons] at hgo
    have hlo := hl'
    refine hideP fun G9 hG9 => ?_
    obtain ⟨hnd, T, t1, U, pm, ctv, cob, oc2, vs2, tq, k1, k2, rfl, hc2, hoc2, hq2⟩ := hl'
    refine hG9 ?_
    clear hG9
    have e2 := Eq.refl (forB hoIn)
    conv at e2 => rhs; whnf
    rw [e2]
    simp only [List.cons_append, List.nil_append] at N'
    iterate 6 walk1
    (with_reducible rename Fr _ _ _ _ => F3)
    (with_reducible rename News _ _ _ _ => N3)
    refine wpAny_call (gettok_pend G (by exact F3.keep) (by walk_at "om") hlo (lex_led (pre := [_, _, _, _, _]) (rest := rest) N3) (by simp; walk_at "om") fun h4 tk4 B4 => ?_)
    refine hideP fun G9 hG9 => ?_
    obtain ⟨l4, hl4, hm4, F4, N4⟩ := lex_back (pre := [_, _, _, _, _]) (rest := rest) hm' hLL F3 N3 (hsep _ _ _ _ _) s5 B4
    refine hG9 ?_
    clear hG9
    clear N3 F3 B4
    dsimp only
    iterate 9 walk1
    have hxw : x ∈ ws.map (·.1) := hsub (x, tx) hxm
    refine hideP fun G9 hG9 => ?_
    obtain ⟨jx, hjx, ex, nx, ax⟩ := afterW_at (ws.map (·.1)) x hxw
    refine hG9 ?_
    clear hG9
    have hjx' : jx < ws.length := by simpa using hjx
    have h6 : hm4 = hm4 := rfl
    have hfree : freeOf (ws.map (·.1)) (wa.map (·.1)) x = freeW (moreOf x) (wa.map (·.1)) ((ws.drop (jx + 1)).map (·.1)) := by rw [freeOf, ax, List.map_drop]
    rw [hourGo] at hgo
    have helse : ¬ (0 < z ∧ freeOf (ws.map (·.1)) (wa.map (·.1)) x = true) → ∀ (Q : Flow → Shared → Prop) (E : Value → Shared → Prop) h5 tk5, Fr g L h5 (fun y => if y = "word" then some (Value.str x tx) else if y = "k" then some (Value.int (0 + ↑i * 1) t) else m' y) →
        News g L h5 ((it, riObj (0 + (i + 1 : Nat) * 1) (wa.length - (i + 1 : Nat)) 1) :: (L + 1, oc) :: (wl, listOf (strValues ws).toArray kw) :: (al, listOf (strValues wa).toArray ka) :: (ll, listOf (strValues lf).toArray kl') :: (l4 ++ rest)) →
        (∀ s₂, TurnOk s g L (JH w.params wl al ll L oc X ln LA ws wa rest kw ka vh z0 (i + 1)) it (riObj (0 + (i + 1 : Nat) * 1) (wa.length - (i + 1 : Nat)) 1) s₂ → Q .next s₂) → wpAny (model PG w) A (execs (ifElse hoIf) (hEnv L)) Q E { s with heap := h5, toks := tk5 } := by
      intro hno Q E h5 tk5 F5 N5 hQ
      rw [if_neg hno] at hgo
      refine hours_else G hroom hh (l := l4) (rest := rest) F5 N5 hoc hl4 hm4 s0 s1 s2 s3 s4 s5 q3 q5 q6 q7 q8 (by simp; walk_at "om") (by walk_at "om") ((if_neg (by decide)).trans ((if_neg (by decide)).trans m3)) (if_pos rfl) fun h6 tk6 l6 kl6 hl6 hm6 F6 N6 => ?_
      refine hQ _ ⟨h6, tk6, _, _, rfl, F6, N6, (if_neg (by decide)).trans ((if_neg (by decide)).trans m1), (if_neg (by decide)).trans ((if_neg (by decide)).trans m2), (if_neg (by decide)).trans ((if_neg (by decide)).trans m3), (if_neg (by decide)).trans ((if_neg (by decide)).trans m5), z, tz, lf ++ [(x, tx)], kl6, l6, (if_neg (by decide)).trans ((if_neg (by decide)).trans m4), by rw [← List.append_assoc]; exact hl6, hm6, by rw [hgo, List.map_append, List.append_assoc]; rfl, ?_, by rw [List.length_append]; exact Nat.succ_le_succ hlfi, rfl⟩
      intro p hp
      rcases List.mem_append.mp hp with hp | hp
      · exact hlf p hp
      · rw [List.mem_singleton.mp hp]; exact hxm
    by_cases hzp : 0 < z
    · rw [decide_eq_true hzp]
      iterate 1 walk1
      rw [if_pos rfl]
      iterate 12 walk1
      (with_reducible rename Fr _ _ _ _ => F5)
      (with_reducible rename News _ _ _ _ => N5)
      refine ⟨XK.keeps F5.keep, ?_⟩
      refine wpAny_call (free_spec G (by exact F5.keep) (by walk_at "om") hh (wl := wl) (al := al) (ws := ws) (wa := wa) (Mine.News.led (L := L) (List.forall_mem_cons.mpr ⟨N5 _ (by k_mem), List.forall_mem_cons.mpr ⟨N5 _ (by k_mem), List.forall_mem_nil _⟩⟩)) hw ha hz hjx' (by simpa using ex) (fun i2 hi2 hlt2 => by have := nx i2 (by rw [List.length_map]; exact hi2) hlt2; rw [List.getElem_map] at this; exact this) fun h6 tk6 kb6 => ?_)
      replace F5 := F5.kept (Keep.all kb6)
      replace N5 := N5.grown (Keep.all kb6)
      dsimp only
      rw [show freeW (Txt.slice x none (some (↑x.length - ↑(Txt.lstripChars x (Str.ofString ".")).length)) ++ Str.ofString ".") (wa.map (·.1)) ((ws.drop (jx + 1)).map (·.1)) = freeOf (ws.map (·.1)) (wa.map (·.1)) x from hfree.symm]
      by_cases hfr : freeOf (ws.map (·.1)) (wa.map (·.1)) x = true
      · rw [hfr]
        rw [if_pos ⟨hzp, hfr⟩] at hgo
        iterate 1 walk1
        rw [if_pos rfl]
        iterate 1 walk1
        rw [if_pos rfl]
        iterate 8 walk1
        (with_reducible rename Fr _ _ _ _ => F7)
        (with_reducible rename News _ _ _ _ => N7)
        exact hT _ _ ⟨_, _, _, _, rfl, F7, N7, (if_neg (by decide)).trans ((if_neg (by decide)).trans ((if_neg (by decide)).trans m1)), (if_neg (by decide)).trans ((if_neg (by decide)).trans ((if_neg (by decide)).trans m2)), (if_neg (by decide)).trans ((if_neg (by decide)).trans ((if_neg (by decide)).trans m3)), (if_neg (by decide)).trans ((if_neg (by decide)).trans ((if_neg (by decide)).trans m5)), _, _, lf, kl', l4, if_pos rfl, hl4, hm4, hgo, hlf, Nat.le_succ_of_le hlfi, rfl⟩
      · rw [eq_false_of_ne_true hfr]
        iterate 1 walk1
        rw [if_neg (by decide)]
        rw [if_neg (by decide)]
        refine helse (fun q => hfr q.2) _ _ _ _ F5 N5 fun s₂ ht => ?_
        iterate 1 walk1
        exact hT _ _ ht
    · rw [decide_eq_false hzp]
      iterate 1 walk1
      rw [if_neg (by decide)]
      rw [if_neg (by decide)]
      (with_reducible rename Fr _ _ _ _ => F5)
      (with_reducible rename News _ _ _ _ => N5)
      refine helse (fun q => hzp q.1) _ _ _ _ F5 N5 fun s₂ ht => ?_
      iterate 1 walk1
      exact hT _ _ ht
  · rintro h9 tk9 m' news' ⟨m1, m2, m3, m5, z, tz, lf, kl', l', m4, hl', hm', hgo, hlf, hlfi, rfl⟩ F9 N9
    rw [List.drop_of_length_le (Nat.le_refl _), List.nil_append] at hl'
    rw [List.drop_of_length_le (Nat.le_refl _), List.map_nil, hourGo_nil, List.append_nil] at hgo
    exact hR _ _ _ _ _ _ hl' hm' hgo.symm hlf F9 N9 m1 m3 m5
end
end
section
set_option maxRecDepth 100000
structure HC where
  L : Addr
  X : LX
  LA : List Addr
  oc : Obj
  ln : Int
  wl : Addr
  rl : Addr
  sl : Addr
  a : Addr
  gi : Nat
  t : Tok
  t' : Tok
  Lg : Addr
  vs : List Value
  ns : List Int
  ws : List (Str × Tok)
  rs : List (Str × Tok)
  kw : Nat
  kr : Nat
  ks : Nat
noncomputable def HC.ok (C : HC) : Prop := (C.L + 1 ∉ C.LA ∧ C.wl ∉ C.LA ∧ C.rl ∉ C.LA ∧ C.sl ∉ C.LA ∧ C.a ∉ C.LA) ∧ C.oc.data = .cell (some (.ref C.X.lx)) ∧ C.ws.length ≤ 8 ∧ C.rs.length ≤ 8 ∧ (∀ p ∈ C.rs, p.1 ∈ C.ws.map (·.1)) ∧ (∀ p ∈ C.ws, p.1.cps.size ≤ 100 ∧ PyData.strOk p.1 = true) ∧ IntsAre C.vs C.ns ∧ (∀ j, gnext C.ns (gst C.ns j) ≠ .fail)
noncomputable abbrev HC.rest (C : HC) (own : List (Addr × Obj)) : List (Addr × Obj) := (C.a, genObj C.gi C.t C.t') :: (C.sl, listOf C.vs.toArray C.ks) :: (C.rl, listOf (strValues C.rs).toArray C.kr) :: own
structure HI (w : World) (A : Around) (g : Heap) (C : HC) (gens0 : Array GenState) (j : Nat) (h : Heap) (gens : Array GenState) (m : Str → Option Value) (wa : List (Str × Tok)) (al : Addr) (ka : Nat) (own l : List (Addr × Obj)) (gs : GenState) : Prop where
  F : Fr g C.L h m
  N : News g C.L h ((C.L + 1, C.oc) :: (C.wl, listOf (strValues C.ws).toArray C.kw) :: (al, listOf (strValues wa).toArray ka) :: (l ++ C.rest own))
  lex : IsLex w.params C.X C.ln wa [] l
  la : l.map (·.1) = C.LA
  gat : gens[C.gi]? = some gs
  go : GenOwn w A g C.Lg C.sl C.vs C.ns 30 (30 - j) own gs
  j20 : j ≤ 20
  sub : ∀ p ∈ wa, p ∈ C.rs
  len : wa.length ≤ 8
  m1 : m "words" = some (.ref C.wl)
  m2 : m "waiting" = some (.ref al)
  m3 : ∃ t, m "hours" = some (.int j t)
  tgt : hoursF (C.ws.map (·.1)) C.ns 25 0 (C.rs.map (·.1)) = hoursF (C.ws.map (·.1)) C.ns (25 - j) j (wa.map (·.1))
  sep : ∀ p ∈ own, p.1 ∉ C.LA ∧ p.1 ≠ C.L + 1 ∧ p.1 ≠ C.wl ∧ p.1 ≠ al ∧ p.1 ≠ C.a ∧ p.1 ≠ C.sl ∧ p.1 ≠ C.rl
  ala : al ∉ C.LA
  ab : AllBare gens0 → AllBare gens
noncomputable def hoTest : Stmt := (forB hoFor).getD 0 (.Pass default)
section
variable {w : World} {mg mb : Str → Option Value} {g : Heap} {A : Around} {R : Result → Shared → Prop} {s : Shared} {E : Value → Shared → Prop}
set_option maxHeartbeats 4000000
theorem HI.told {C : HC} {gens0 gens : Array GenState} {j : Nat} {h h' : Heap} {m : Str → Option Value} {wa : List (Str × Tok)} {al : Addr} {ka : Nat} {own own' l : List (Addr × Obj)} {gs : GenState} (I : HI w A g C gens0 j h gens m wa al ka own l gs)
    (k : Keep (own.map (·.1)) h h') (hv : ∀ p ∈ own', h'.get? p.1 = some p.2) (hn : ∀ p ∈ own', p.1 ∈ own.map (·.1) ∨ h.get? p.1 = none) :
    Fr g C.L h' m ∧ News g C.L h' ((C.L + 1, C.oc) :: (C.wl, listOf (strValues C.ws).toArray C.kw) :: (al, listOf (strValues wa).toArray ka) :: (l ++ C.rest own')) ∧
      (∀ p ∈ own', p.1 ∉ C.LA ∧ p.1 ≠ C.L + 1 ∧ p.1 ≠ C.wl ∧ p.1 ≠ al ∧ p.1 ≠ C.a ∧ p.1 ≠ C.sl ∧ p.1 ≠ C.rl) := by
  have hown : ∀ p ∈ own, p ∈ ((C.L + 1, C.oc) :: (C.wl, listOf (strValues C.ws).toArray C.kw) :: (al, listOf (strValues wa).toArray ka) :: (l ++ C.rest own)) := fun p hp => .tail _ (.tail _ (.tail _ (List.mem_append_right _ (.tail _ (.tail _ (.tail _ hp))))))
  have hg : ∀ x ∈ own.map (·.1), g.get? x = none := fun x hx => by
    obtain ⟨p, hp, rfl⟩ := List.mem_map.mp hx
    exact (I.N p (hown p hp)).2.2
  have hLo : C.L ∉ own.map (·.1) := fun hx => by
    obtain ⟨p, hp, e⟩ := List.mem_map.mp hx
    exact (I.N p (hown p hp)).2.1 e
  have F' := Fr.after I.F k hLo hg
  have offA : ∀ a, (∀ q ∈ own, q.1 ≠ a) → a ∉ own.map (·.1) := fun a z hx => by
    obtain ⟨q, hq, e⟩ := List.mem_map.mp hx
    exact z q hq e
  have lo : ∀ p ∈ l, p.1 ∉ own.map (·.1) := fun p hp => offA _ fun q hq e => (I.sep q hq).1 (by rw [e, ← I.la]; exact List.mem_map_of_mem hp)
  have off : ∀ p ∈ ((C.L + 1, C.oc) :: (C.wl, listOf (strValues C.ws).toArray C.kw) :: (al, listOf (strValues wa).toArray ka) :: (l ++ C.rest [])), p.1 ∉ own.map (·.1) :=
    consP (P := fun p => p.1 ∉ own.map (·.1)) (offA _ fun q hq => (I.sep q hq).2.1) (consP (offA _ fun q hq => (I.sep q hq).2.2.1) (consP (offA _ fun q hq => (I.sep q hq).2.2.2.1) (appP lo (consP (offA _ fun q hq => (I.sep q hq).2.2.2.2.1) (consP (offA _ fun q hq => (I.sep q hq).2.2.2.2.2.1) (consP (offA _ fun q hq => (I.sep q hq).2.2.2.2.2.2) nilP))))))
  have M := pickP I.N [0, 1, 2] (appP (leftP (dropP I.N 3)) (pickP (rightP (dropP I.N 3)) [0, 1, 2] nilP))
  have N0 : News g C.L h' ((C.L + 1, C.oc) :: (C.wl, listOf (strValues C.ws).toArray C.kw) :: (al, listOf (strValues wa).toArray ka) :: (l ++ C.rest [])) := fun p hp => ⟨k _ _ (off p hp) (M p hp).1, (M p hp).2⟩
  have fresh : ∀ p ∈ own', h.get? p.1 = none → ∀ q ∈ ((C.L + 1, C.oc) :: (C.wl, listOf (strValues C.ws).toArray C.kw) :: (al, listOf (strValues wa).toArray ka) :: (l ++ C.rest own)), p.1 ≠ q.1 := fun p _ e q hq z => by
    have := (I.N q hq).1
    rw [← z, e] at this
    cases this
  have own2 : ∀ p ∈ own', h'.get? p.1 = some p.2 ∧ p.1 ≠ C.L ∧ g.get? p.1 = none := fun p ho => by
    rcases hn p ho with q | q
    · obtain ⟨p', hp', e⟩ := List.mem_map.mp q
      have := (I.N p' (hown p' hp')).2
      exact ⟨hv p ho, e ▸ this⟩
    · exact Mine.Fr.fresh I.F q (hv p ho)
  refine ⟨F', pickP N0 [0, 1, 2] (appP (leftP (dropP N0 3)) (pickP (rightP (dropP N0 3)) [0, 1, 2] own2)), fun p hp => ?_⟩
  · rcases hn p hp with q | q
    · obtain ⟨p', hp', e⟩ := List.mem_map.mp q
      exact e ▸ I.sep p' hp'
    · have fr := fresh p hp q
      refine ⟨fun z => ?_, fr _ (.head _), fr _ (.tail _ (.head _)), fr _ (.tail _ (.tail _ (.head _))), fr _ (.tail _ (.tail _ (.tail _ (List.mem_append_right _ (.head _))))), fr _ (.tail _ (.tail _ (.tail _ (List.mem_append_right _ (.tail _ (.head _)))))), fr _ (.tail _ (.tail _ (.tail _ (List.mem_append_right _ (.tail _ (.tail _ (.head _)))))))⟩
      rw [← I.la] at z
      obtain ⟨p', hp', e⟩ := List.mem_map.mp z
      exact fr p' (.tail _ (.tail _ (.tail _ (List.mem_append_left _ hp')))) e.symm
end
end
theorem Again.at20 {M : Model} {A : Around} {env : Env} {Q : Flow → Shared → Prop} {E : Value → Shared → Prop} {s : Shared} (h : Q .next s) : wpAny M A (execs [] env) Q E s := by w_top off; walk1; exact h
section
set_option maxRecDepth 100000
section
variable {w : World} {mg mb : Str → Option Value} {g : Heap} {A : Around} {R : Result → Shared → Prop} {s : Shared} {E : Value → Shared → Prop}
set_option maxHeartbeats 4000000
theorem newList_nil {M : Model} {L : Addr} {m : Str → Option Value} {news : List (Addr × Obj)} {Q : Value → Shared → Prop} (F : Fr g L s.heap m) (N : News g L s.heap news)
    (h : ∀ q h', Fr g L h' m → News g L h' ((q, listOf (strValues []).toArray 0) :: news) → (∀ p ∈ news, p.1 < q) → Q (.ref q) { s with heap := h' }) : wpAny M A (newList []) Q E s := by
  refine wpAny_newObj_type ?_
  obtain ⟨F3, N3, l3⟩ := ks_newsPush (s := s) (o := listOf (strValues []).toArray 0) F N rfl (Heap.get?_push_at rfl rfl) (fun b o e => Heap.get?_push_of_some _ e)
  exact h _ _ F3 N3 l3
theorem hours_loop (G : Gnd w mg mb g) (hroom : A.depth < 690) (hh : A.handled = none) (hu : A.units < 9000) {C : HC} (ok : C.ok) (hL : g.objs.size ≤ C.Lg) (hLg : C.sl ≠ C.Lg) {m : Str → Option Value} {al : Addr} {ka : Nat} {own l : List (Addr × Obj)} {gs : GenState}
   (I0 : HI w A g C s.gens 0 s.heap s.gens m C.rs al ka own l gs)
   (hR : ∀ j h' tk gens' m' wa al' ka' l', hoursF (C.ws.map (·.1)) C.ns 25 0 (C.rs.map (·.1)) = (j, wa.map (·.1)) → IsLex w.params C.X C.ln wa [] l' → l'.map (·.1) = C.LA → (∀ p ∈ wa, p ∈ C.rs) → wa.length ≤ 8 → al' ∉ C.LA → Fr g C.L h' m' →
      News g C.L h' ((C.L + 1, C.oc) :: (C.wl, listOf (strValues C.ws).toArray C.kw) :: (al', listOf (strValues wa).toArray ka') :: (l' ++ C.rest [])) → m' "waiting" = some (.ref al') → (∃ t, m' "hours" = some (.int j t)) → (AllBare s.gens → AllBare gens') →
      R (.ok .next) { s with heap := h', toks := tk, gens := gens' }) :
   codeAny (model PG w) A (.forLoop (forT hoFor) (.ref C.a) (forB hoFor) [] (hEnv C.L)) R s := by
  have XK := G.k
  obtain ⟨me, TT⟩ := G.t
  refine hideP fun G9 hG9 => ?_
  obtain ⟨⟨a1, a2, a3, a4, a5⟩, hoc, hw8, hr8, hsub, hz, hvs, hnf⟩ := id ok
  refine hG9 ?_
  clear hG9
  have e1 := Eq.refl (forT hoFor)
  conv at e1 => rhs; whnf
  rw [e1]
  refine hideI (fun k s' => ∃ j h tk gens m wa al ka own l gs, s' = { s with heap := h, toks := tk, gens := gens } ∧ k = 30 - j ∧ HI w A g C s.gens j h gens m wa al ka own l gs) fun II toI ofI => ?_
  refine codeAny_forLoop II ?_ 30 (toI _ _ ⟨0, s.heap, s.toks, s.gens, m, C.rs, al, ka, own, l, gs, rfl, rfl, I0⟩) (by intro _; rfl)
  intro k s' hI
  refine hideP fun G9 hG9 => ?_
  obtain ⟨j, h, tk, gens, m', wa, al', ka', own', l', gs', rfl, rfl, I⟩ := ofI _ _ hI
  refine hG9 ?_
  clear hG9 ofI hI
  have hj20 := I.j20
  have hgo := I.go
  rw [show 30 - j = (29 - j) + 1 from sb1 I.j20 (by decide)] at hgo
  have hown : ∀ p ∈ own', p ∈ ((C.L + 1, C.oc) :: (C.wl, listOf (strValues C.ws).toArray C.kw) :: (al', listOf (strValues wa).toArray ka') :: (l' ++ C.rest own')) := fun p hp => .tail _ (.tail _ (.tail _ (List.mem_append_right _ (.tail _ (.tail _ (.tail _ hp))))))
  have memS : (C.sl, listOf C.vs.toArray C.ks) ∈ ((C.L + 1, C.oc) :: (C.wl, listOf (strValues C.ws).toArray C.kw) :: (al', listOf (strValues wa).toArray ka') :: (l' ++ C.rest own')) := .tail _ (.tail _ (.tail _ (List.mem_append_right _ (.tail _ (.head _)))))
  have memA : (C.a, genObj C.gi C.t C.t') ∈ ((C.L + 1, C.oc) :: (C.wl, listOf (strValues C.ws).toArray C.kw) :: (al', listOf (strValues wa).toArray ka') :: (l' ++ C.rest own')) := .tail _ (.tail _ (.tail _ (List.mem_append_right _ (.head _))))
  refine next_own G hh (by walk_at "om") hL hLg hvs hnf (s := { s with heap := h, toks := tk, gens := gens }) I.F.keep hgo (fun p hp => (I.N p (hown p hp)).1) ⟨_, (I.N _ memS).1, rfl, _, rfl⟩ (I.N _ memA).1 I.gat ?_ ?_
  · intro z tz st' h2 tk2 own2 gs2 gens2 hn kb hv2 hf2 hO hgat hab
    obtain ⟨F2, N2, sep2⟩ := I.told kb hv2 hf2
    rw [show 30 - (29 - j + 1) = j from sb2 I.j20 (by decide)] at hn
    dsimp only
    refine wpAny_assign_Name (storeX_L F2 N2 (fun h3 F3 N3 => ?_) rfl rfl)
    obtain ⟨th, m3⟩ := I.m3
    have m1 := I.m1
    have m2 := I.m2
    have e2 := Eq.refl (forB hoFor)
    conv at e2 => rhs; whnf
    rw [e2]
    iterate 7 walk1
    (with_reducible rename Fr _ _ _ _ => F4)
    (with_reducible rename News _ _ _ _ => N4)
    refine newList_nil F4 N4 fun q h5 F5 N5 l5 => ?_
    have hok : ∀ x ∈ wa.map (·.1), PyData.strOk x = true := by
      intro x hx
      obtain ⟨p, hp, rfl⟩ := List.mem_map.mp hx
      obtain ⟨p', hp', e⟩ := List.mem_map.mp (hsub p (I.sub p hp))
      exact e ▸ (hz p' hp').2
    refine words_eq (ws := wa) (us := []) ⟨_, N5.get (.tail _ (.tail _ (.tail _ (.head _)))), rfl, _, rfl⟩ ⟨_, N5.get (.head _), rfl, _, rfl⟩ hok (by intro x hx; cases hx) (by show A.units + 64 < 9900; walk_at "om") ?_
    have hbrk : (wa = [] ∨ j = 20) → hoursF (C.ws.map (·.1)) C.ns 25 0 (C.rs.map (·.1)) = (j, wa.map (·.1)) := by
      intro hb
      rw [I.tgt, show 25 - j = (24 - j) + 1 from sb1 I.j20 (by decide), hoursF_succ, hn]
      exact if_pos (by rcases hb with rfl | hb; exact .inl rfl; exact .inr hb)
    have hend : ∀ h6 tk6 m6, Fr g C.L h6 m6 → News g C.L h6 ((C.L + 1, C.oc) :: (C.wl, listOf (strValues C.ws).toArray C.kw) :: (al', listOf (strValues wa).toArray ka') :: (l' ++ C.rest own2)) → (wa = [] ∨ j = 20) → m6 "waiting" = some (.ref al') → m6 "hours" = some (.int j th) → R (.ok .next) { s with heap := h6, toks := tk6, gens := gens2 } := by
      intro h6 tk6 m6 F6 N6 hb q2 q3
      exact hR j h6 tk6 gens2 m6 wa al' ka' l' (hbrk hb) I.lex I.la I.sub I.len I.ala F6 (pickP N6 [0, 1, 2] (appP (leftP (dropP N6 3)) (pickP (rightP (dropP N6 3)) [0, 1, 2] nilP))) q2 ⟨th, q3⟩ (fun q => hab (I.ab q))
    by_cases hw0 : wa = []
    · rw [hw0]
      rw [show decide ((([] : List (Str × Tok)).map (·.1)) = ([] : List (Str × Tok)).map (·.1)) = true from by simp]
      iterate 1 walk1
      rw [if_pos rfl]; first | rw [if_pos trivial] | rw [if_pos rfl]
      iterate 3 walk1
      exact hend _ _ _ F5 (fun p hp => N5 p (.tail _ hp)) (.inl hw0) ((if_neg (by decide)).trans m2) ((if_neg (by decide)).trans m3)
    · rw [decide_eq_false (by simpa using hw0)]
      iterate 1 walk1
      rw [if_neg (by decide)]
      iterate 5 walk1
      by_cases hj : j = 20
      · rw [show ((j : Int) == 20) = true from by rw [hj]; rfl]
        iterate 1 walk1
        rw [if_pos rfl]; first | rw [if_pos trivial] | rw [if_pos rfl]
        iterate 3 walk1
        exact hend _ _ _ F5 (fun p hp => N5 p (.tail _ hp)) (.inr hj) ((if_neg (by decide)).trans m2) ((if_neg (by decide)).trans m3)
      · rw [show ((j : Int) == 20) = false from beq_eq_false_iff_ne.mpr (by walk_at "om")]
        iterate 1 walk1
        rw [if_neg (by decide)]
        iterate 27 walk1
        (with_reducible rename Fr _ _ _ _ => F6)
        (with_reducible rename News _ _ _ _ => N6)
        refine newList_nil F6 N6 fun ll h7 F7 N7 l7 => ?_
        iterate 3 walk1
        refine wpAny_For ?_
        iterate 10 walk1
        (with_reducible rename Fr _ _ _ _ => F8)
        (with_reducible rename News _ _ _ _ => N8)
        have hlen8 := I.len
        refine call_len_list (items := (strValues wa).toArray) ⟨_, N8.get (.tail _ (.tail _ (.tail _ (.tail _ (.head _))))), rfl, _, rfl⟩ (by simp [strValues]; walk_at "om") ?_
        rw [show (strValues wa).toArray.size = wa.length from by simp [strValues]]
        iterate 1 walk1
        refine range1_iter F8 N8 (by walk_at "om") (by walk_at "om") fun it h9 tk9 F9 N9 l9 => ?_
        have b1 : ∀ p ∈ (q, listOf (strValues []).toArray 0) :: (C.L + 1, C.oc) :: (C.wl, listOf (strValues C.ws).toArray C.kw) :: (al', listOf (strValues wa).toArray ka') :: (l' ++ C.rest own2), p.1 < ll := l7
        have c1 : (ll, listOf (strValues []).toArray 0) ∈ (ll, listOf (strValues []).toArray 0) :: (q, listOf (strValues []).toArray 0) :: (C.L + 1, C.oc) :: (C.wl, listOf (strValues C.ws).toArray C.kw) :: (al', listOf (strValues wa).toArray ka') :: (l' ++ C.rest own2) := .head _
        have r1 : ∀ p ∈ C.rest own2, p ∈ (q, listOf (strValues []).toArray 0) :: (C.L + 1, C.oc) :: (C.wl, listOf (strValues C.ws).toArray C.kw) :: (al', listOf (strValues wa).toArray ka') :: (l' ++ C.rest own2) := fun p hp => .tail _ (.tail _ (.tail _ (.tail _ (List.mem_append_right _ hp))))
        have ll1 := b1 (C.L + 1, C.oc) (.tail _ (.head _))
        have ll2 := b1 (C.wl, listOf (strValues C.ws).toArray C.kw) (.tail _ (.tail _ (.head _)))
        have ll3 := b1 (al', listOf (strValues wa).toArray ka') (.tail _ (.tail _ (.tail _ (.head _))))
        have it0 := l9 (ll, listOf (strValues []).toArray 0) (.head _)
        have notLA : ∀ b : Addr, (∀ p ∈ l', p.1 < b) → b ∉ C.LA := fun b hb q => by
          rw [← I.la] at q
          obtain ⟨p, hp, e⟩ := List.mem_map.mp q
          have := hb p hp
          rw [e] at this
          exact Nat.lt_irrefl _ this
        have llA : ll ∉ C.LA := notLA ll fun p hp => b1 p (.tail _ (.tail _ (.tail _ (.tail _ (List.mem_append_left _ hp)))))
        have itA : it ∉ C.LA := notLA it fun p hp => l9 p (.tail _ (.tail _ (.tail _ (.tail _ (.tail _ (List.mem_append_left _ hp))))))
        have it1 := l9 (C.L + 1, C.oc) (.tail _ (.tail _ (.head _)))
        have it2 := l9 (C.wl, listOf (strValues C.ws).toArray C.kw) (.tail _ (.tail _ (.tail _ (.head _))))
        have it3 := l9 (al', listOf (strValues wa).toArray ka') (.tail _ (.tail _ (.tail _ (.tail _ (.head _)))))
        have restA : ∀ p ∈ C.rest own2, p.1 ∉ C.LA := fun p hp => by
          rcases List.mem_cons.mp hp with rfl | hp
          · exact a5
          rcases List.mem_cons.mp hp with rfl | hp
          · exact a4
          rcases List.mem_cons.mp hp with rfl | hp
          · exact a3
          exact (sep2 p hp).1
        refine hours_inner G (by walk_at "om") hh (L := C.L) (al := al') (ll := ll) (wl := C.wl) (it := it) (oc := C.oc) (X := C.X) (ln := C.ln) (ws := C.ws) (wa := wa) (kw := C.kw) (ka := ka') (kl := 0) (l := l') (rest := C.rest own2) (LA := C.LA) (z0 := z) (tz := tz) F9 ?_ hoc I.lex I.la itA a1 a2 I.ala llA restA (Nat.ne_of_gt it1) (Nat.ne_of_gt it2) (Nat.ne_of_gt it3) (Nat.ne_of_gt it0) (fun p hp => Nat.ne_of_lt (l9 p (.tail _ (r1 p hp)))) (Nat.ne_of_gt ll1) (Nat.ne_of_gt ll2) (Nat.ne_of_gt ll3) (fun p hp => Nat.ne_of_lt (b1 p (r1 p hp))) hw8 hlen8 (fun p hp => hsub p (I.sub p hp)) (fun p hp => (hz p hp).1) ((if_neg (by decide)).trans ((if_neg (by decide)).trans ((if_neg (by decide)).trans m1))) ((if_neg (by decide)).trans ((if_neg (by decide)).trans ((if_neg (by decide)).trans m2))) (if_pos rfl) ((if_neg (by decide)).trans ((if_neg (by decide)).trans (if_pos rfl))) ((if_neg (by decide)).trans (if_pos rfl)) ?_
        · intro p hp
          rcases List.mem_cons.mp hp with rfl | hp
          · exact N9 _ (.head _)
          rcases List.mem_cons.mp hp with rfl | hp
          · exact N9 _ (.tail _ (.tail _ (.tail _ (.head _))))
          rcases List.mem_cons.mp hp with rfl | hp
          · exact N9 _ (.tail _ (.tail _ (.tail _ (.tail _ (.head _)))))
          rcases List.mem_cons.mp hp with rfl | hp
          · exact N9 _ (.tail _ (.tail _ (.tail _ (.tail _ (.tail _ (.head _))))))
          rcases List.mem_cons.mp hp with rfl | hp
          · exact N9 _ (.tail _ (.head _))
          exact N9 _ (.tail _ (.tail _ (.tail _ (.tail _ (.tail _ (.tail _ hp))))))
        · intro h10 tk10 m10 lf kl10 l10 hl10 hm10 hgo10 hlf10 F10 N10 n1 n2 n3
          dsimp only
          iterate 5 walk1
          (with_reducible rename Fr _ _ _ _ => F11)
          (with_reducible rename News _ _ _ _ => N11)
          have hl8 : lf.length ≤ 8 := by
            have h1 := congrArg List.length hgo10
            have h2 := hourGo_len (words := C.ws.map (·.1)) (wait := wa.map (·.1)) (wa.map (·.1)) z
            rw [← h1, List.length_map, List.length_map] at h2
            walk_at "om"
          refine ⟨30 - (j + 1), sb5 I.j20 (by decide), toI _ _ ⟨j + 1, _, _, _, (fun y => if y = "waiting" then some (Value.ref ll) else m10 y), lf, ll, kl10, own2, l10, gs2, rfl, rfl, ?_⟩⟩
          refine { F := F11, N := ?_, lex := hl10, la := hm10, gat := hgat, go := ?_, j20 := by walk_at "om", sub := fun p hp => I.sub p (hlf10 p hp), len := hl8, m1 := (if_neg (by decide)).trans n1, m2 := if_pos rfl, m3 := ⟨_, (if_neg (by decide)).trans n3⟩, tgt := ?_, sep := fun p hp => ?_, ala := llA, ab := fun q => hab (I.ab q) }
          · intro p hp
            rcases List.mem_cons.mp hp with rfl | hp
            · exact N11 _ (.head _)
            rcases List.mem_cons.mp hp with rfl | hp
            · exact N11 _ (.tail _ (.head _))
            rcases List.mem_cons.mp hp with rfl | hp
            · exact N11 _ (.tail _ (.tail _ (.tail _ (.head _))))
            exact N11 _ (.tail _ (.tail _ (.tail _ (.tail _ hp))))
          · rw [show 30 - (j + 1) = 29 - j from Nat.succ_sub_succ 29 j]
            exact hO (sb4 I.j20 (by decide))
          · rw [I.tgt, show 25 - j = (25 - (j + 1)) + 1 from sb3 I.j20 (by decide), hoursF_succ, hn, hgo10]
            exact if_neg (by simpa using ⟨hw0, hj⟩)
          · refine hideP fun G9 hG9 => ?_
            obtain ⟨z1, z2, z3, _, z5, z6, z7⟩ := sep2 p hp
            refine hG9 ?_
            clear hG9
            exact ⟨z1, z2, z3, Nat.ne_of_lt (b1 p (r1 p (.tail _ (.tail _ (.tail _ hp))))), z5, z6, z7⟩
  · intro h2 tk2 gens2 hn kb hab
    obtain ⟨F2, N2, _⟩ := I.told (own' := []) kb (by intro p hp; cases hp) (by intro p hp; cases hp)
    rw [show 30 - (29 - j + 1) = j from sb2 I.j20 (by decide)] at hn
    dsimp only
    refine wpAny_execs_nil ?_
    refine hR j h2 tk2 gens2 m' wa al' ka' l' ?_ I.lex I.la I.sub I.len I.ala F2 N2 I.m2 I.m3 (fun q => hab (I.ab q))
    rw [I.tgt, show 25 - j = (24 - j) + 1 from sb1 I.j20 (by decide), hoursF_succ, hn]
end
end
theorem Again.at21 {M : Model} {A : Around} {env : Env} {Q : Flow → Shared → Prop} {E : Value → Shared → Prop} {s : Shared} (h : Q .next s) : wpAny M A (execs [] env) Q E s := by w_top off; walk1; exact h
section
set_option maxRecDepth 100000
section
variable {w : World} {mg mb : Str → Option Value} {g : Heap} {A : Around} {R : Result → Shared → Prop} {s : Shared} {E : Value → Shared → Prop}
set_option maxHeartbeats 4000000
theorem off1_mem {D : Addr} : ∀ {l : List (Addr × Obj)}, LCg.Off1 D l → ∀ p ∈ l, p.1 ≠ D
  | [], _, _, h => nomatch h
  | _ :: _, x, p, h => by
    rcases List.mem_cons.mp h with rfl | h
    · exact x.1
    · exact off1_mem x.2 p h
theorem newList_strs {M : Model} {L : Addr} {m : Str → Option Value} {news : List (Addr × Obj)} {Q : Value → Shared → Prop} (us : List (Str × Tok)) (F : Fr g L s.heap m) (N : News g L s.heap news)
    (h : ∀ q h', Fr g L h' m → News g L h' ((q, listOf (strValues us).toArray 0) :: news) → (∀ p ∈ news, p.1 < q) → Q (.ref q) { s with heap := h' }) (hz : (strValues us).length ≤ 100 := by decide) : wpAny M A (newList (strValues us)) Q E s := by
  refine wpAny_newObj_type ?_ (by show (strValues us).toArray.size ≤ _; rw [List.size_toArray, sizeLine_eq]; walk_at "om")
  obtain ⟨F3, N3, l3⟩ := ks_newsPush (s := s) (o := listOf (strValues us).toArray 0) F N rfl (Heap.get?_push_at rfl rfl) (fun b o e => Heap.get?_push_of_some _ e)
  exact h _ _ F3 N3 l3
theorem hours_tail (G : Gnd w mg mb g) (hroom : A.depth < 690) (hh : A.handled = none) (hu : A.units < 9000) {L al : Addr} {X : LX} {LA : List Addr} {oc : Obj} {ln : Int} {m : Str → Option Value} {ka : Nat} {wa : List (Str × Tok)} {l rest : List (Addr × Obj)} {j : Nat} {tj : Tok} {Q : Flow → Shared → Prop}
   (F : Fr g L s.heap m) (N : News g L s.heap ((L + 1, oc) :: (al, listOf (strValues wa).toArray ka) :: (l ++ rest))) (hoc : oc.data = .cell (some (.ref X.lx))) (hl : IsLex w.params X ln wa [] l) (hLA : l.map (·.1) = LA)
   (s1 : L + 1 ∉ LA) (s2 : al ∉ LA) (s3 : ∀ p ∈ rest, p.1 ∉ LA) (hlen : wa.length ≤ 8) (hst : ∀ p ∈ wa, PyData.strOk p.1 = true) (m2 : m "waiting" = some (.ref al)) (m3 : m "hours" = some (.int j tj))
   (hQ : ∀ h' tk q k t1 t2 l', l'.map (·.1) = LA → Fr g L h' m → News g L h' ((q, listOf #[.int j t1, .int wa.length t2] k) :: (L + 1, oc) :: (al, listOf (strValues wa).toArray ka) :: (l' ++ rest)) → (∀ p ∈ (L + 1, oc) :: (al, listOf (strValues wa).toArray ka) :: (l' ++ rest), p.1 < q) → Q (.ret (.ref q)) { s with heap := h', toks := tk }) :
   wpAny (model PG w) A (execs ((defB hoDef).drop 4) (hEnv L)) Q E s := by
  have XK := G.k
  obtain ⟨me, TT⟩ := G.t
  have e1 := Eq.refl ((defB hoDef).drop 4)
  conv at e1 => rhs; whnf
  rw [e1]
  have hLL : L ∉ LA := fun q => by
    rw [← hLA] at q
    obtain ⟨p, hp, e⟩ := List.mem_map.mp q
    exact (N p (.tail _ (.tail _ (List.mem_append_left _ hp)))).2.1 e
  iterate 4 walk1
  refine LCg.ListComp_U F (by with_unfolding_all rfl) (by decide) (by rfl) (by decide) (by rfl) ?_
  iterate 1 walk1
  refine LCg.CompSrc.ledger (by exact hh) F N (.tail _ (.head _)) (by rw [sizeLine_eq]; simp [strValues]; walk_at "om") (fun g2 => ?_)
  refine CompRest.turns (n := (strValues wa).toArray.size) (fun i ys news2 => ∃ l', IsLex w.params X ln (wa.drop i) [] l' ∧ l'.map (·.1) = LA ∧ ys = strValues (wa.take i) ∧ news2 = (L + 1, oc) :: (al, listOf (strValues wa).toArray ka) :: (l' ++ rest)) (fun i ys news1 v I2 oI C oC D m₂ h tk E' Qt hT hi hJ hP hC hx F N off ne => ?_) (fun ys news j => ?_) _ _ _ _ (Nat.zero_add _) ⟨l, hl, hLA, rfl, rfl⟩
  · refine hideP fun G9 hG9 => ?_
    obtain ⟨l1, hl1, hm1, rfl, rfl⟩ := hJ
    refine hG9 ?_
    clear hG9
    have hi8 : i < wa.length := by simpa [strValues] using hi
    obtain ⟨⟨x, tx⟩, hxe⟩ : ∃ p, wa[i]'hi8 = p := ⟨_, rfl⟩
    have hdr : wa.drop i = (x, tx) :: wa.drop (i + 1) := by rw [List.drop_eq_getElem_cons hi8, hxe]
    have htk : wa.take (i + 1) = wa.take i ++ [(x, tx)] := by rw [List.take_add_one, List.getElem?_eq_getElem hi8, hxe]; rfl
    rw [hdr] at hl1
    have hlo := hl1
    have offm := off.mem
    have nI : I2 ∉ LA := fun q => by
      rw [← hm1] at q
      obtain ⟨p, hp, e⟩ := List.mem_map.mp q
      exact (offm p (.tail _ (.tail _ (List.mem_append_left _ hp)))).1 e
    have nC : C ∉ LA := fun q => by
      rw [← hm1] at q
      obtain ⟨p, hp, e⟩ := List.mem_map.mp q
      exact (offm p (.tail _ (.tail _ (List.mem_append_left _ hp)))).2.1 e
    have nD : D ∉ LA := fun q => by
      rw [← hm1] at q
      obtain ⟨p, hp, e⟩ := List.mem_map.mp q
      exact (offm p (.tail _ (.tail _ (List.mem_append_left _ hp)))).2.2 e
    have offn : ∀ l4 : List (Addr × Obj), l4.map (·.1) = LA → LCg.Off3 I2 C D ((L + 1, oc) :: (al, listOf (strValues wa).toArray ka) :: (l4 ++ rest)) := fun l4 hm4 => LCg.Off3.of fun p hp => by
      rcases List.mem_cons.mp hp with rfl | hp
      · exact offm _ (.head _)
      rcases List.mem_cons.mp hp with rfl | hp
      · exact offm _ (.tail _ (.head _))
      rcases List.mem_append.mp hp with hp | hp
      · have : p.1 ∈ LA := hm4 ▸ List.mem_map_of_mem hp
        exact ⟨fun q => nI (q ▸ this), fun q => nC (q ▸ this), fun q => nD (q ▸ this)⟩
      · exact offm p (.tail _ (.tail _ (List.mem_append_right _ hp)))
    refine hideP fun G9 hG9 => ?_
    obtain ⟨hnd, T, t1, U, pm, ctv, cob, oc2, vs2, tq, k1, k2, rfl, hc2, hoc2, hq2⟩ := hl1
    refine hG9 ?_
    clear hG9
    have N' := N
    simp only [List.cons_append, List.nil_append] at N'
    clear N
    iterate 5 walk1
    refine wpAny_call (gettok_pend G (by exact F.keep) (by walk_at "om") hlo (lex_led (pre := [_, _, _, _, _]) (rest := rest) N') (by simp; walk_at "om") fun h4 tk4 B4 => ?_)
    refine hideP fun G9 hG9 => ?_
    obtain ⟨l4, hl4, hm4, F4, N4⟩ := lex_back (pre := [_, _, _, _, _]) (rest := rest) hm1 hLL F N' (List.forall_mem_cons.mpr ⟨nI, List.forall_mem_cons.mpr ⟨nC, List.forall_mem_cons.mpr ⟨nD, List.forall_mem_cons.mpr ⟨s1, List.forall_mem_cons.mpr ⟨s2, List.forall_mem_nil _⟩⟩⟩⟩⟩) s3 B4
    refine hG9 ?_
    clear hG9
    dsimp only
    refine hT _ _ ⟨_, _, _, rfl, F4, N4, offn l4 hm4, .inr ⟨_, .tail _ (.head _), rfl, _, rfl⟩, l4, hl4, hm4, ?_, rfl⟩
    rw [htk]
    simp [strValues]
  · refine hideP fun G9 hG9 => ?_
    obtain ⟨l1, hl1, hm1, rfl, rfl⟩ := j
    refine hG9 ?_
    clear hG9
    intro D h5 tk5 F5 N5 off5
    rw [List.drop_of_length_le (by simp [strValues])] at hl1
    rw [List.take_of_length_le (by simp [strValues])] at N5
    have offm5 : D ∉ LA := fun q => by
      rw [← hm1] at q
      obtain ⟨p, hp, e⟩ := List.mem_map.mp q
      exact (off1_mem off5 p (.tail _ (.tail _ (List.mem_append_left _ hp)))) e
    have hlo := hl1
    refine hideP fun G9 hG9 => ?_
    obtain ⟨hnd, T, t1, U, pm, ctv, cob, oc2, vs2, tq, k1, k2, rfl, hc2, hoc2, hq2⟩ := hl1
    refine hG9 ?_
    clear hG9
    clear N F
    simp only [List.cons_append, List.nil_append] at N5
    iterate 6 walk1
    refine wpAny_call (gettok G (by exact F5.keep) (by walk_at "om") (by exact hh) hlo (lex_led (pre := [_, _, _]) (rest := rest) N5) (by simp) fun h6 tk6 t6 n6 B6 _ => ?_)
    refine hideP fun G9 hG9 => ?_
    obtain ⟨l6, hl6, hm6, F6, N6⟩ := lex_back (pre := [_, _, _]) (rest := rest) hm1 hLL F5 N5 (List.forall_mem_cons.mpr ⟨offm5, List.forall_mem_cons.mpr ⟨s1, List.forall_mem_cons.mpr ⟨s2, List.forall_mem_nil _⟩⟩⟩) s3 B6
    refine hG9 ?_
    clear hG9
    clear N5 F5 B6
    rw [show (word ([] : List (Nat × Tok))).1 = [] from rfl]
    dsimp only
    iterate 1 walk1
    refine newList_strs [(⟨#[]⟩, t6)] F6 N6 (fun q1 h7 F7 N7 l7 => ?_) (by simp [strValues])
    refine kmk_add_lit (zs := strValues (wa ++ [(⟨#[]⟩, t6)])) F7 N7 ⟨_, N7.get (.tail _ (.head _)), rfl, _, rfl⟩ ⟨_, N7.get (.head _), rfl, _, rfl⟩ (by simp [strValues]) (fun D1 h8 F8 N8 l8 => ?_) (by simp [strValues, sizeLine_eq]; walk_at "om")
    iterate 6 walk1
    refine newList_strs [(Str.ofString "", tk6)] F8 N8 (fun q2 h9 F9 N9 l9 => ?_) (by simp [strValues])
    refine kmk_add_lit (zs := strValues (wa ++ [(Str.ofString "", tk6)])) F9 N9 ⟨_, N9.get (.tail _ (.tail _ (.tail _ (.tail _ (.tail _ (.head _)))))), rfl, _, rfl⟩ ⟨_, N9.get (.head _), rfl, _, rfl⟩ (by simp [strValues]) (fun D2 h10 F10 N10 l10 => ?_) (by simp [strValues, sizeLine_eq]; walk_at "om")
    refine words_ne (ws := wa ++ [(⟨#[]⟩, t6)]) (us := wa ++ [(Str.ofString "", tk6)]) ⟨_, N10.get (.tail _ (.tail _ (.head _))), rfl, _, rfl⟩ ⟨_, N10.get (.head _), rfl, _, rfl⟩ ?_ ?_ (by show A.units + 64 < 9900; walk_at "om") ?_
    · intro x hx
      obtain ⟨p, hp, rfl⟩ := List.mem_map.mp hx
      rcases List.mem_append.mp hp with hp | hp
      · exact hst p hp
      · rw [List.mem_singleton.mp hp]; show PyData.strOk (⟨#[]⟩ : Str) = true; decide +kernel
    · intro x hx
      obtain ⟨p, hp, rfl⟩ := List.mem_map.mp hx
      rcases List.mem_append.mp hp with hp | hp
      · exact hst p hp
      · rw [List.mem_singleton.mp hp]; show PyData.strOk (Str.ofString "") = true; decide +kernel
    rw [decide_eq_true (by rw [List.map_append, List.map_append]; rfl)]
    iterate 16 walk1
    refine call_len_list (items := (strValues wa).toArray) ⟨_, N10.get (.tail _ (.tail _ (.tail _ (.tail _ (.tail _ (.tail _ (.head _))))))), rfl, _, rfl⟩ (by simp [strValues]; walk_at "om") ?_
    rw [show (strValues wa).toArray.size = wa.length from by simp [strValues]]
    iterate 1 walk1
    refine wpAny_newObj_type ?_
    have sub : ∀ p ∈ (L + 1, oc) :: (al, listOf (strValues wa).toArray ka) :: (l6 ++ rest), p ∈ (D2, listOf (strValues (wa ++ [(Str.ofString "", tk6)])).toArray 0) :: (q2, listOf (strValues [(Str.ofString "", tk6)]).toArray 0) :: (D1, listOf (strValues (wa ++ [(⟨#[]⟩, t6)])).toArray 0) :: (q1, listOf (strValues [(⟨#[]⟩, t6)]).toArray 0) :: (D, LCg.lst (strValues wa)) :: (L + 1, oc) :: (al, listOf (strValues wa).toArray ka) :: (l6 ++ rest) := fun p hp => .tail _ (.tail _ (.tail _ (.tail _ (.tail _ hp))))
    have N11 : News g L h10 ((L + 1, oc) :: (al, listOf (strValues wa).toArray ka) :: (l6 ++ rest)) := fun p hp => N10 p (sub p hp)
    trace_state
    obtain ⟨F12, N12, l12⟩ := ks_newsPush (s := { s with heap := h10 }) (o := listOf #[.int j tj, .int wa.length _] 0) F10 N11 rfl (Heap.get?_push_at rfl rfl) (fun b o e => Heap.get?_push_of_some _ e)
    exact hQ _ _ _ _ _ _ l6 hm6 F12 N12 l12
end
end
theorem Again.at22 {M : Model} {A : Around} {env : Env} {Q : Flow → Shared → Prop} {E : Value → Shared → Prop} {s : Shared} (h : Q .next s) : wpAny M A (execs [] env) Q E s := by w_top off; walk1; exact h
section
set_option maxRecDepth 100000
inductive JP (P : Params) (wl rl sl L' : Addr) (oc : Obj) (X : LX) (ln : Int) (LA : List Addr) (ws rs : List (Str × Tok)) (vs : List Value) (kw kr ks : Nat) (i : Nat) (m' : Str → Option Value) (news' : List (Addr × Obj)) : Prop
  | mk (m1 : m' "words" = some (.ref wl)) (m2 : m' "row" = some (.ref rl)) (m3 : m' "sizes" = some (.ref sl)) (l' : List (Addr × Obj)) (hl : IsLex P X ln (rs.take i) [] l') (hm : l'.map (·.1) = LA) (e : news' = (L' + 1, oc) :: (wl, listOf (strValues ws).toArray kw) :: (rl, listOf (strValues rs).toArray kr) :: (sl, listOf vs.toArray ks) :: (l' ++ []))
section
variable {w : World} {mg mb : Str → Option Value} {h₀ : Heap} {A : Around} {R : Result → Shared → Prop} {s : Shared} {E : Value → Shared → Prop}
set_option maxHeartbeats 4000000
theorem gen_ledger {g h h' : Heap} {L : Addr} {m : Str → Option Value} {news : List (Addr × Obj)} {oa oL : Obj} (F : Fr g L h m) (N : News g L h news) (kb : Keep [] h h') (ea : h'.get? (h.objs.size + 1) = some oa) (eL : h'.get? h.objs.size = some oL) :
    ∃ Lg, Lg = h.objs.size ∧ L < Lg ∧ g.objs.size ≤ Lg ∧ Fr g L h' m ∧ News g L h' ((Lg + 1, oa) :: (Lg, oL) :: news) ∧ (∀ p ∈ news, p.1 < Lg) := by
  refine ⟨_, rfl, F.ns.lt, Nat.le_trans F.above (Nat.le_of_lt F.ns.lt), F.kept (Keep.all kb), ?_, fun p hp => Heap.lt_size (N p hp).1⟩
  exact Mine.News.more F (N.grown (Keep.all kb)) (news' := [(h.objs.size + 1, oa), (h.objs.size, oL)]) (List.forall_mem_cons.mpr ⟨⟨ea, Heap.get?_none_of_le (Nat.le_succ _)⟩, List.forall_mem_cons.mpr ⟨⟨eL, Heap.get?_none_of_le (Nat.le_refl _)⟩, List.forall_mem_nil _⟩⟩)
theorem hours_spec (G : Gnd w mg mb h₀) (st : h₀.StaysIn s.heap) (hroom : A.depth < 680) (hh : A.handled = none) (hu : A.units < 8000) {X : LX} {ln : Int} {l : List (Addr × Obj)} {wl rl sl : Addr} {kw kr ks : Nat} {ws rs : List (Str × Tok)} {vs : List Value} {ns : List Int}
   (hl : IsLex w.params X ln [] [] l) (hn : Led h₀ s.heap ((wl, listOf (strValues ws).toArray kw) :: (rl, listOf (strValues rs).toArray kr) :: (sl, listOf vs.toArray ks) :: l))
   (hw : wl ∉ l.map (·.1)) (hr : rl ∉ l.map (·.1)) (hs : sl ∉ l.map (·.1)) (hw8 : ws.length ≤ 8) (hr8 : rs.length ≤ 8) (hsub : ∀ p ∈ rs, p.1 ∈ ws.map (·.1)) (hz : ∀ p ∈ ws, p.1.cps.size ≤ 100 ∧ PyData.strOk p.1 = true) (hvs : IntsAre vs ns) (hnf : ∀ j, gnext ns (gst ns j) ≠ .fail)
   (h : ∀ h' tk gens' q k t1 t2 j wa, Keep (l.map (·.1)) s.heap h' → s.heap.get? q = none → h'.get? q = some (listOf #[.int (j : Nat) t1, .int (wa : List Str).length t2] k) → hoursF (ws.map (·.1)) ns 25 0 (rs.map (·.1)) = (j, wa) → (AllBare s.gens → AllBare gens') →
      R (.ok (.ret (.ref q))) { s with heap := h', toks := tk, gens := gens' }) :
   codeAny (model PG w) A (.call (.ref 142) ⟨[.ref X.lx, .ref wl, .ref rl, .ref sl], []⟩) R s := by
  refine enterC G st (by with_unfolding_all rfl) (by with_unfolding_all rfl) (by show A.depth < 1000; walk_at "om") (BindsTo.of_eq (binds := [("lexer", .ref X.lx), ("words", .ref wl), ("row", .ref rl), ("sizes", .ref sl)]) rfl) (by rfl) (by decide) _ hn ?_
  intro g L' h₁ tk cells I F N Y G'
  have XK := G'.k
  obtain ⟨me, TT⟩ := G'.t
  obtain ⟨oc, he, dc⟩ := PyProof.Rows.CellsAre.one Y
  subst he
  dsimp only [List.cons_append, List.nil_append] at N
  have hoc : oc.data = .cell (some (.ref X.lx)) := dc
  clear dc
  iterate 1 walk1
  refine wpAny_For ?_
  iterate 1 walk1
  (with_reducible rename Fr _ _ _ _ => F1)
  obtain ⟨LA, hLAe⟩ : ∃ LA, LA = l.map (·.1) := ⟨_, rfl⟩
  rw [← hLAe] at hw hr hs
  have dlt : ∀ p ∈ (wl, listOf (strValues ws).toArray kw) :: (rl, listOf (strValues rs).toArray kr) :: (sl, listOf vs.toArray ks) :: l, p.1 < L' := I.lt
  have s1 : L' + 1 ∉ LA := fun q => by
    rw [hLAe] at q
    obtain ⟨p, hp, e⟩ := List.mem_map.mp q
    have := dlt p (.tail _ (.tail _ (.tail _ hp)))
    rw [e] at this
    exact Nat.lt_irrefl _ (Nat.lt_trans (Nat.lt_succ_self _) this)
  have hLL : L' ∉ LA := fun q => by
    rw [hLAe] at q
    obtain ⟨p, hp, e⟩ := List.mem_map.mp q
    have := dlt p (.tail _ (.tail _ (.tail _ hp)))
    rw [e] at this
    exact Nat.lt_irrefl _ this
  have N1 : News g L' h₁ ((L' + 1, oc) :: (wl, listOf (strValues ws).toArray kw) :: (rl, listOf (strValues rs).toArray kr) :: (sl, listOf vs.toArray ks) :: (l ++ [])) := by rw [List.append_nil]; exact N
  refine iterList (items := (strValues rs).toArray) F1 N1 ⟨_, N1.get (.tail _ (.tail _ (.head _))), rfl, _, rfl⟩ fun it h2 oi F2 N2 hc hd l2 => ?_
  have itne : ∀ l' : List (Addr × Obj), l'.map (·.1) = LA → ∀ p ∈ (L' + 1, oc) :: (wl, listOf (strValues ws).toArray kw) :: (rl, listOf (strValues rs).toArray kr) :: (sl, listOf vs.toArray ks) :: (l' ++ []), p.1 ≠ it := fun l' hm p hp => by
    rcases List.mem_cons.mp hp with rfl | hp
    · exact Nat.ne_of_lt (l2 (L' + 1, oc) (.head _))
    rcases List.mem_cons.mp hp with rfl | hp
    · exact Nat.ne_of_lt (l2 (wl, listOf (strValues ws).toArray kw) (.tail _ (.head _)))
    rcases List.mem_cons.mp hp with rfl | hp
    · exact Nat.ne_of_lt (l2 (rl, listOf (strValues rs).toArray kr) (.tail _ (.tail _ (.head _))))
    rcases List.mem_cons.mp hp with rfl | hp
    · exact Nat.ne_of_lt (l2 (sl, listOf vs.toArray ks) (.tail _ (.tail _ (.tail _ (.head _)))))
    rw [List.append_nil] at hp
    have : p.1 ∈ l.map (·.1) := by rw [← hLAe, ← hm]; exact List.mem_map_of_mem hp
    obtain ⟨q, hq, e⟩ := List.mem_map.mp this
    rw [← e]
    exact Nat.ne_of_lt (l2 q (.tail _ (.tail _ (.tail _ (.tail _ (List.mem_append_left _ hq))))))
  have itA : it ∉ LA := fun q => by
    rw [hLAe] at q
    obtain ⟨p, hp, e⟩ := List.mem_map.mp q
    exact itne l hLAe.symm p (.tail _ (.tail _ (.tail _ (.tail _ (List.mem_append_left _ hp))))) e
  refine loopList (l := rl) (by exact hh) (items := (strValues rs).toArray) (JP w.params wl rl sl L' oc X ln LA ws rs vs kw kr ks) ?_ F2 N2 hc hd ⟨rfl, rfl, rfl, l, hl, hLAe.symm, rfl⟩ ?_ ?_ ?_
  · rintro i m' news' ⟨_, _, _, l', _, _, rfl⟩ h3 F3 N3
    exact ⟨_, N3.get (.tail _ (.tail _ (.head _))), rfl, _, rfl⟩
  · rintro i m' news' ⟨_, _, _, l', _, hm, rfl⟩ p hp
    exact itne l' hm p hp
  · rintro i v m' news' h' tk' o' Qt Et hT hE hv ⟨m1, m2, m3, l', hl', hm', rfl⟩ F' N'
    have hx : ∃ x t, rs[i]? = some (x, t) ∧ v = .str x t := by
      simp only [strValues, List.getElem?_toArray, List.getElem?_map, Option.map_eq_some_iff] at hv
      obtain ⟨p, e1, e2⟩ := hv
      exact ⟨p.1, p.2, e1, e2.symm⟩
    refine hideP fun G9 hG9 => ?_
    obtain ⟨x, tx, hx, rfl⟩ := hx
    refine hG9 ?_
    clear hG9
    have hlo := hl'
    refine hideP fun G9 hG9 => ?_
    obtain ⟨hnd, T, t1, U, pm, ctv, cob, oc2, vs2, tq, k1, k2, rfl, hc2, hoc2, hq2⟩ := hl'
    refine hG9 ?_
    clear hG9
    simp only [List.cons_append, List.nil_append] at N'
    iterate 10 walk1
    (with_reducible rename Fr _ _ _ _ => F4)
    (with_reducible rename News _ _ _ _ => N4)
    refine ⟨XK.keeps F4.keep, ?_⟩
    refine wpAny_call (pushtok G' (by exact F4.keep) (by show A.depth + 1 < 800; walk_at "om") hlo (lex_led (pre := [_, _, _, _, _]) (rest := []) N4) (by simp; walk_at "om") fun h6 tk6 B6 => ?_)
    refine hideP fun G9 hG9 => ?_
    obtain ⟨l6, hl6, hm6, F6, N6⟩ := lex_back (pre := [_, _, _, _, _]) (rest := []) hm' hLL F4 N4 (List.forall_mem_cons.mpr ⟨itA, List.forall_mem_cons.mpr ⟨s1, List.forall_mem_cons.mpr ⟨hw, List.forall_mem_cons.mpr ⟨hr, List.forall_mem_cons.mpr ⟨hs, List.forall_mem_nil _⟩⟩⟩⟩⟩) (by intro p hp; cases hp) B6
    refine hG9 ?_
    clear hG9
    clear N4 F4 B6
    dsimp only
    iterate 6 walk1
    refine hT _ _ ⟨_, _, _, _, rfl, F6, N6, lk_ne (by decide) m1, lk_ne (by decide) m2, lk_ne (by decide) m3, l6, ?_, hm6, rfl⟩
    rw [List.take_add_one, hx]
    exact hl6
  · rintro h3 tk3 m' news' ⟨m1, m2, m3, l', hl', hm', rfl⟩ F3 N3
    dsimp only
    rw [List.take_of_length_le (by simp [strValues])] at hl'
    iterate 9 walk1
    refine wpAny_For ?_
    iterate 6 walk1
    (with_reducible rename Fr _ _ _ _ => F4)
    (with_reducible rename News _ _ _ _ => N4)
    refine ⟨XK.keeps F4.keep, ?_⟩
    refine wpAny_call (call_gen G' (by exact F4.keep) (by show A.depth + 1 < 900; walk_at "om") fun h6 tk6 t6 t6' oL kb6 eL nsL ea => ?_)
    dsimp only at eL nsL ea ⊢
    refine wpAny_pyIter_gen (isGen_of ea) ?_
    refine hideP fun G9 hG9 => ?_
    obtain ⟨Lg, e4, lL, gL, F6, N6, lt6⟩ := gen_ledger F4 N4 kb6 ea eL
    refine hG9 ?_
    clear hG9
    rw [← e4] at nsL ⊢
    clear F4 N4 ea eL e4
    have lw : wl < Lg := lt6 (wl, listOf (strValues ws).toArray kw) (.tail _ (.head _))
    have lr : rl < Lg := lt6 (rl, listOf (strValues rs).toArray kr) (.tail _ (.tail _ (.head _)))
    have ls : sl < Lg := lt6 (sl, listOf vs.toArray ks) (.tail _ (.tail _ (.tail _ (.head _))))
    have lc : L' + 1 < Lg := lt6 (L' + 1, oc) (.head _)
    have lA : ∀ x ∈ LA, x < Lg := fun x hx => by
      rw [← hm'] at hx
      obtain ⟨p, hp, rfl⟩ := List.mem_map.mp hx
      exact lt6 p (.tail _ (.tail _ (.tail _ (.tail _ (List.mem_append_left _ hp)))))
    refine hours_loop (A := A.deeper (hEnv L')) G' ?_ hh ?_ (C := ⟨L', X, LA, oc, ln, wl, rl, sl, Lg + 1, s.gens.size, t6, t6', Lg, vs, ns, ws, rs, kw, kr, ks⟩) ⟨⟨s1, hw, hr, hs, fun q => Nat.lt_irrefl _ (Nat.lt_trans (Nat.lt_succ_self _) (lA _ q))⟩, hoc, hw8, hr8, hsub, hz, hvs, hnf⟩ gL (Nat.ne_of_lt ls) (al := rl) (ka := kr) (own := [(Lg, oL)]) (l := l') (gs := .fresh (.func gBody (gEnv Lg))) ⟨F6, ?_, hl', hm', Array.getElem?_push_size .., .inl ⟨oL, rfl, rfl, rfl, nsL⟩, Nat.zero_le _, fun p hp => hp, hr8, (if_neg (by decide)).trans ((if_neg (by decide)).trans m1), (if_neg (by decide)).trans (if_pos rfl), ⟨_, if_pos rfl⟩, rfl, ?_, hr, fun q => q⟩ ?_
    · show A.depth + 1 < 690; walk_at "om"
    · show A.units + 3 < 9000; walk_at "om"
    · intro p hp
      rcases List.mem_cons.mp hp with rfl | hp
      · exact N6 _ (.tail _ (.tail _ (.head _)))
      rcases List.mem_cons.mp hp with rfl | hp
      · exact N6 _ (.tail _ (.tail _ (.tail _ (.head _))))
      rcases List.mem_cons.mp hp with rfl | hp
      · exact N6 _ (.tail _ (.tail _ (.tail _ (.tail _ (.head _)))))
      rcases List.mem_append.mp hp with hp | hp
      · exact N6 _ (.tail _ (.tail _ (.tail _ (.tail _ (.tail _ (.tail _ (List.mem_append_left _ hp)))))))
      rcases List.mem_cons.mp hp with rfl | hp
      · exact N6 _ (.head _)
      rcases List.mem_cons.mp hp with rfl | hp
      · exact N6 _ (.tail _ (.tail _ (.tail _ (.tail _ (.tail _ (.head _))))))
      rcases List.mem_cons.mp hp with rfl | hp
      · exact N6 _ (.tail _ (.tail _ (.tail _ (.tail _ (.head _)))))
      rcases List.mem_cons.mp hp with rfl | hp
      · exact N6 _ (.tail _ (.head _))
      cases hp
    · intro p hp
      rcases List.mem_cons.mp hp with rfl | hp
      · exact ⟨fun q => Nat.lt_irrefl _ (lA _ q), Nat.ne_of_gt lc, Nat.ne_of_gt lw, Nat.ne_of_gt lr, Nat.ne_of_lt (Nat.lt_succ_self _), Nat.ne_of_gt ls, Nat.ne_of_gt lr⟩
      cases hp
    · intro j h7 tk7 gens7 m7 wa al7 ka7 l7 htgt hl7 hm7 hsub7 hlen7 hala F7 N7 q1 q2 hab
      obtain ⟨th, q2⟩ := q2
      dsimp only at F7 N7 hl7 hm7 hala htgt ⊢
      have hok : ∀ p ∈ wa, PyData.strOk p.1 = true := fun p hp => by
        obtain ⟨p', hp', e⟩ := List.mem_map.mp (hsub p (hsub7 p hp))
        exact e ▸ (hz p' hp').2
      refine hours_tail (A := A.deeper (hEnv L')) G' ?_ hh ?_ (L := L') (al := al7) (X := X) (LA := LA) (oc := oc) (ln := ln) (ka := ka7) (wa := wa) (l := l7) (rest := (wl, listOf (strValues ws).toArray kw) :: HC.rest ⟨L', X, LA, oc, ln, wl, rl, sl, Lg + 1, s.gens.size, t6, t6', Lg, vs, ns, ws, rs, kw, kr, ks⟩ []) (j := j) (tj := th) F7 ?_ hoc hl7 hm7 s1 hala ?_ hlen7 hok q1 q2 ?_
      · show A.depth + 1 < 690; walk_at "om"
      · show A.units + 3 < 9000; walk_at "om"
      · intro p hp
        rcases List.mem_cons.mp hp with rfl | hp
        · exact N7 _ (.head _)
        rcases List.mem_cons.mp hp with rfl | hp
        · exact N7 _ (.tail _ (.tail _ (.head _)))
        rcases List.mem_append.mp hp with hp | hp
        · exact N7 _ (.tail _ (.tail _ (.tail _ (List.mem_append_left _ hp))))
        rcases List.mem_cons.mp hp with rfl | hp
        · exact N7 _ (.tail _ (.head _))
        exact N7 _ (.tail _ (.tail _ (.tail _ (List.mem_append_right _ hp))))
      · intro p hp
        rcases List.mem_cons.mp hp with rfl | hp
        · exact hw
        rcases List.mem_cons.mp hp with rfl | hp
        · exact fun q => Nat.lt_irrefl _ (Nat.lt_trans (Nat.lt_succ_self _) (lA _ q))
        rcases List.mem_cons.mp hp with rfl | hp
        · exact hs
        rcases List.mem_cons.mp hp with rfl | hp
        · exact hr
        cases hp
      · intro h8 tk8 q k8 t81 t82 l8 hm8 F8 N8 l8lt
        dsimp only
        have W1 := (N8 (wl, listOf (strValues ws).toArray kw) (.tail _ (.tail _ (.tail _ (List.mem_append_right _ (.head _)))))).1
        have W2 := (N8 (rl, listOf (strValues rs).toArray kr) (.tail _ (.tail _ (.tail _ (List.mem_append_right _ (.tail _ (.tail _ (.tail _ (.head _))))))))).1
        have W3 := (N8 (sl, listOf vs.toArray ks) (.tail _ (.tail _ (.tail _ (List.mem_append_right _ (.tail _ (.tail _ (.head _)))))))).1
        have g1 := l8lt (wl, listOf (strValues ws).toArray kw) (.tail _ (.tail _ (List.mem_append_right _ (.head _))))
        have g2 := l8lt (rl, listOf (strValues rs).toArray kr) (.tail _ (.tail _ (List.mem_append_right _ (.tail _ (.tail _ (.tail _ (.head _)))))))
        have g3 := l8lt (sl, listOf vs.toArray ks) (.tail _ (.tail _ (List.mem_append_right _ (.tail _ (.tail _ (.head _))))))
        have g4 : ∀ x ∈ LA, x < q := fun x hx => by
          rw [← hm8] at hx
          obtain ⟨p, hp, rfl⟩ := List.mem_map.mp hx
          exact l8lt p (.tail _ (.tail _ (List.mem_append_left _ hp)))
        have kb := I.keepBack F8
        refine h h8 tk8 gens7 q k8 t81 t82 j (wa.map (·.1)) ?_ ?_ ?_ htgt (fun z => hab (z.push rfl))
        · rw [← hLAe]
          intro b o nb e
          by_cases b1 : b = wl
          · subst b1
            have := (hn _ (.head _)).1
            rw [e] at this
            rw [W1]; exact this.symm
          by_cases b2 : b = rl
          · subst b2
            have := (hn _ (.tail _ (.head _))).1
            rw [e] at this
            rw [W2]; exact this.symm
          by_cases b3 : b = sl
          · subst b3
            have := (hn _ (.tail _ (.tail _ (.head _)))).1
            rw [e] at this
            rw [W3]; exact this.symm
          refine kb b o ?_ e
          rw [List.map_cons, List.map_cons, List.map_cons, ← hLAe]
          intro z
          rcases List.mem_cons.mp z with z | z
          · exact b1 z
          rcases List.mem_cons.mp z with z | z
          · exact b2 z
          rcases List.mem_cons.mp z with z | z
          · exact b3 z
          exact nb z
        · refine I.fresh (N8 _ (.head _)).2.2 ?_
          rw [List.map_cons, List.map_cons, List.map_cons, ← hLAe]
          intro z
          rcases List.mem_cons.mp z with z | z
          · exact Nat.ne_of_gt g1 z
          rcases List.mem_cons.mp z with z | z
          · exact Nat.ne_of_gt g2 z
          rcases List.mem_cons.mp z with z | z
          · exact Nat.ne_of_gt g3 z
          exact Nat.lt_irrefl _ (g4 _ z)
        · have := (N8 _ (.head _)).1
          rw [List.length_map]
          exact this
end
end
theorem Again.at23 {M : Model} {A : Around} {env : Env} {Q : Flow → Shared → Prop} {E : Value → Shared → Prop} {s : Shared} (h : Q .next s) : wpAny M A (execs [] env) Q E s := by w_top off; walk1; exact h
section
set_option maxRecDepth 100000
noncomputable def toldF (ns : List Int) : Nat → Nat → List Int → List Int
  | 0, _, acc => acc
  | f + 1, j, acc => match gnext ns (gst ns j) with
    | .yld x _ => if acc.length + 1 = 7 then acc ++ [x] else toldF ns f (j + 1) (acc ++ [x])
    | _ => acc
theorem toldF_succ (ns : List Int) (f j : Nat) (acc : List Int) : toldF ns (f + 1) j acc = match gnext ns (gst ns j) with
    | .yld x _ => if acc.length + 1 = 7 then acc ++ [x] else toldF ns f (j + 1) (acc ++ [x])
    | _ => acc := rfl
noncomputable def toDef : Stmt := (PySem.Challenge.rw_sl0005_01.row.prog.main.body).getD 20 (.Pass default)
noncomputable abbrev tEnv (L : Addr) : Env := envX "_law_told" (defS toDef) L 154 (.ref 153) []
noncomputable def tryB (s : Stmt) : List Stmt := stB s
noncomputable def toFor : Stmt := (tryB ((defB toDef).getD 1 (.Pass default))).getD 0 (.Pass default)
structure TI (w : World) (A : Around) (g : Heap) (L Lg a gi tl sl : Addr) (t t' : Tok) (vs : List Value) (ns : List Int) (ks : Nat) (gens0 : Array GenState) (j : Nat) (h : Heap) (gens : Array GenState) (m : Str → Option Value) (us : List Value) (acc : List Int) (ku : Nat) (own : List (Addr × Obj)) (gs : GenState) : Prop where
  F : Fr g L h m
  N : News g L h ((tl, listOf us.toArray ku) :: (a, genObj gi t t') :: (sl, listOf vs.toArray ks) :: own)
  li : IntsAre us acc
  gat : gens[gi]? = some gs
  go : GenOwn w A g Lg sl vs ns 30 (30 - j) own gs
  len : acc.length = j
  j6 : j ≤ 6
  m1 : m "told" = some (.ref tl)
  tgt : toldF ns 10 0 [] = toldF ns (10 - j) j acc
  sep : ∀ p ∈ own, p.1 ≠ tl ∧ p.1 ≠ a ∧ p.1 ≠ sl
  sep2 : a ≠ tl ∧ sl ≠ tl
  ab : AllBare gens0 → AllBare gens
section
variable {w : World} {mg mb : Str → Option Value} {g : Heap} {A : Around} {R : Result → Shared → Prop} {s : Shared} {E : Value → Shared → Prop}
set_option maxHeartbeats 4000000
theorem ledger_told {g h h' : Heap} {L : Addr} {m : Str → Option Value} {pre own own' : List (Addr × Obj)} (F : Fr g L h m) (N : News g L h (pre ++ own)) (sep : ∀ p ∈ pre, p.1 ∉ own.map (·.1))
    (k : Keep (own.map (·.1)) h h') (hv : ∀ p ∈ own', h'.get? p.1 = some p.2) (hn : ∀ p ∈ own', p.1 ∈ own.map (·.1) ∨ h.get? p.1 = none) :
    Fr g L h' m ∧ News g L h' (pre ++ own') ∧ (∀ p ∈ pre, p.1 ∉ own'.map (·.1)) := by
  have hg : ∀ x ∈ own.map (·.1), g.get? x = none := fun x hx => by
    obtain ⟨p, hp, rfl⟩ := List.mem_map.mp hx
    exact (N p (List.mem_append_right _ hp)).2.2
  have hLo : L ∉ own.map (·.1) := fun hx => by
    obtain ⟨p, hp, e⟩ := List.mem_map.mp hx
    exact (N p (List.mem_append_right _ hp)).2.1 e
  refine hideP fun G9 hG9 => ?_
  obtain ⟨oL, _, _, eL, _⟩ := F.ns
  refine hG9 ?_
  clear hG9
  refine ⟨Fr.after F k hLo hg, fun p hp => ?_, fun p hp hx => ?_⟩
  · rcases List.mem_append.mp hp with hp | hp
    · have := N p (List.mem_append_left _ hp)
      exact ⟨k _ _ (sep p hp) this.1, this.2⟩
    · refine ⟨hv p hp, ?_⟩
      rcases hn p hp with q | q
      · obtain ⟨p', hp', e⟩ := List.mem_map.mp q
        have := (N p' (List.mem_append_right _ hp')).2
        exact e ▸ this
      · refine ⟨fun z => (by rw [z, eL] at q; exact nomatch q), ?_⟩
        cases z : g.get? p.1 with
        | none => rfl
        | some o => rw [F.keep _ _ z] at q; cases q
  · obtain ⟨p', hp', e⟩ := List.mem_map.mp hx
    rcases hn p' hp' with q | q
    · exact sep p hp (by rw [← e]; exact q)
    · have := (N p (List.mem_append_left _ hp)).1
      rw [← e, q] at this
      cases this
theorem told_loop (G : Gnd w mg mb g) (hroom : A.depth < 690) (hh : A.handled = none) {L Lg a gi tl sl : Addr} {t t' : Tok} {vs : List Value} {ns : List Int} {ks : Nat} (hvs : IntsAre vs ns) (hnf : ∀ j, gnext ns (gst ns j) ≠ .fail) (hL : g.objs.size ≤ Lg) (hLg : sl ≠ Lg) {m : Str → Option Value} {us : List Value} {ku : Nat} {own : List (Addr × Obj)} {gs : GenState}
   (I0 : TI w A g L Lg a gi tl sl t t' vs ns ks s.gens 0 s.heap s.gens m us [] ku own gs)
   (hR : ∀ h' tk gens' m' us' acc ku', toldF ns 10 0 [] = acc → IntsAre us' acc → Fr g L h' m' → News g L h' ((tl, listOf us'.toArray ku') :: (a, genObj gi t t') :: (sl, listOf vs.toArray ks) :: []) → m' "told" = some (.ref tl) → (AllBare s.gens → AllBare gens') → R (.ok .next) { s with heap := h', toks := tk, gens := gens' }) :
   codeAny (model PG w) A (.forLoop (forT toFor) (.ref a) (forB toFor) [] (tEnv L)) R s := by
  have XK := G.k
  obtain ⟨me, TT⟩ := G.t
  have e1 := Eq.refl (forT toFor)
  conv at e1 => rhs; whnf
  rw [e1]
  refine hideI (fun k s' => ∃ j h tk gens m us acc ku own gs, s' = { s with heap := h, toks := tk, gens := gens } ∧ k = 30 - j ∧ TI w A g L Lg a gi tl sl t t' vs ns ks s.gens j h gens m us acc ku own gs) fun II toI ofI => ?_
  refine codeAny_forLoop II ?_ 30 (toI _ _ ⟨0, s.heap, s.toks, s.gens, m, us, [], ku, own, gs, rfl, rfl, I0⟩) (by intro _; rfl)
  intro k s' hI
  refine hideP fun G9 hG9 => ?_
  obtain ⟨j, h, tk, gens, m', us', acc, ku', own', gs', rfl, rfl, I⟩ := ofI _ _ hI
  refine hG9 ?_
  clear hG9 ofI hI
  have hj6 := I.j6
  have hgo := I.go
  rw [show 30 - j = (29 - j) + 1 from sb1 I.j6 (by decide)] at hgo
  have sep0 : ∀ p ∈ [(tl, listOf us'.toArray ku'), (a, genObj gi t t'), (sl, listOf vs.toArray ks)], p.1 ∉ own'.map (·.1) := fun p hp hx => by
    obtain ⟨q, hq, e⟩ := List.mem_map.mp hx
    obtain ⟨z1, z2, z3⟩ := I.sep q hq
    simp only [List.mem_cons, List.not_mem_nil, or_false] at hp
    rcases hp with rfl | rfl | rfl
    · exact z1 e
    · exact z2 e
    · exact z3 e
  refine next_own G hh (by walk_at "om") hL hLg hvs hnf (s := { s with heap := h, toks := tk, gens := gens }) I.F.keep hgo (fun p hp => (I.N p (.tail _ (.tail _ (.tail _ hp)))).1) ⟨_, (I.N _ (.tail _ (.tail _ (.head _)))).1, rfl, _, rfl⟩ (I.N _ (.tail _ (.head _))).1 I.gat ?_ ?_
  · intro z tz st' h2 tk2 own2 gs2 gens2 hn kb hv2 hf2 hO hgat hab
    obtain ⟨F2, N2, sep2⟩ := ledger_told (pre := [(tl, listOf us'.toArray ku'), (a, genObj gi t t'), (sl, listOf vs.toArray ks)]) I.F I.N sep0 kb hv2 hf2
    rw [show 30 - (29 - j + 1) = j from sb2 I.j6 (by decide)] at hn
    dsimp only
    refine wpAny_assign_Name (storeX_L F2 N2 (fun h3 F3 N3 => ?_) rfl rfl)
    have m1 := I.m1
    have hul : us'.length = j := by rw [I.li.length, I.len]
    have e2 := Eq.refl (forB toFor)
    conv at e2 => rhs; whnf
    rw [e2]
    iterate 9 walk1
    (with_reducible rename Fr _ _ _ _ => F4)
    (with_reducible rename News _ _ _ _ => N4)
    have memFst : ∀ p ∈ own2, p.1 ∈ own2.map (·.1) := fun p hp => List.mem_map_of_mem hp
    have sepT : ∀ p ∈ own2, p.1 ≠ tl ∧ p.1 ≠ a ∧ p.1 ≠ sl := fun p hp => ⟨fun q => sep2 (tl, listOf us'.toArray ku') (.head _) (q ▸ memFst p hp), fun q => sep2 (a, genObj gi t t') (.tail _ (.head _)) (q ▸ memFst p hp), fun q => sep2 (sl, listOf vs.toArray ks) (.tail _ (.tail _ (.head _))) (q ▸ memFst p hp)⟩
    refine append_K F4 N4 (.head fun p hp => ?_) (fun h5 F5 N5 => ?_) (by simp [sizeLine_eq]; walk_at "om")
    · rcases List.mem_cons.mp hp with rfl | hp
      · exact I.sep2.1
      rcases List.mem_cons.mp hp with rfl | hp
      · exact I.sep2.2
      exact (sepT p hp).1
    rw [List.push_toArray] at N5
    have li2 : IntsAre (us' ++ [.int z tz]) (acc ++ [z]) := I.li.append (.cons _ _ .nil)
    iterate 9 walk1
    refine call_len_list (items := (us' ++ [Value.int z tz]).toArray) ⟨_, N5.get (.head _), rfl, _, rfl⟩ (by simp; walk_at "om") ?_
    rw [show (us' ++ [Value.int z tz]).toArray.size = j + 1 from by simp [hul]]
    iterate 2 walk1
    by_cases hj : j = 6
    · rw [show (((j + 1 : Nat) : Int) == 7) = true from by rw [hj]; rfl]
      iterate 5 walk1
      refine hR _ _ _ _ (us' ++ [.int z tz]) (acc ++ [z]) (ku' + 1) ?_ li2 F5 ?_ ((if_neg (by decide)).trans m1) (fun q => hab (I.ab q))
      · rw [I.tgt, show 10 - j = (9 - j) + 1 from sb1 I.j6 (by decide), toldF_succ, hn]
        exact if_pos (by rw [I.len, hj])
      · exact List.forall_mem_cons.mpr ⟨N5 _ (.head _), List.forall_mem_cons.mpr ⟨N5 _ (.tail _ (.head _)), List.forall_mem_cons.mpr ⟨N5 _ (.tail _ (.tail _ (.head _))), List.forall_mem_nil _⟩⟩⟩
    · rw [show (((j + 1 : Nat) : Int) == 7) = false from beq_eq_false_iff_ne.mpr (by walk_at "om")]
      iterate 5 walk1
      refine ⟨30 - (j + 1), sb5 I.j6 (by decide), toI _ _ ⟨j + 1, _, _, _, (fun y => if y = "size" then some (Value.int z tz) else m' y), us' ++ [.int z tz], acc ++ [z], ku' + 1, own2, gs2, rfl, rfl, ?_⟩⟩
      refine { F := F5, N := N5, li := li2, gat := hgat, go := ?_, len := by rw [List.length_append, I.len]; rfl, j6 := by walk_at "om", m1 := (if_neg (by decide)).trans m1, tgt := ?_, sep := sepT, sep2 := I.sep2, ab := fun q => hab (I.ab q) }
      · rw [show 30 - (j + 1) = 29 - j from Nat.succ_sub_succ 29 j]
        exact hO (sb4 I.j6 (by decide))
      · rw [I.tgt, show 10 - j = (10 - (j + 1)) + 1 from sb3 I.j6 (by decide), toldF_succ, hn]
        exact if_neg (by rw [I.len]; walk_at "om")
  · intro h2 tk2 gens2 hn kb hab
    obtain ⟨F2, N2, _⟩ := ledger_told (pre := [(tl, listOf us'.toArray ku'), (a, genObj gi t t'), (sl, listOf vs.toArray ks)]) (own' := []) I.F I.N sep0 kb (by intro p hp; cases hp) (by intro p hp; cases hp)
    rw [show 30 - (29 - j + 1) = j from sb2 I.j6 (by decide)] at hn
    dsimp only
    refine wpAny_execs_nil ?_
    refine hR h2 tk2 gens2 m' us' acc ku' ?_ I.li F2 N2 I.m1 (fun q => hab (I.ab q))
    rw [I.tgt, show 10 - j = (9 - j) + 1 from sb1 I.j6 (by decide), toldF_succ, hn]
end
end
theorem Again.at24 {M : Model} {A : Around} {env : Env} {Q : Flow → Shared → Prop} {E : Value → Shared → Prop} {s : Shared} (h : Q .next s) : wpAny M A (execs [] env) Q E s := by w_top off; walk1; exact h
section
set_option maxRecDepth 100000
section
variable {w : World} {mg mb : Str → Option Value} {h₀ : Heap} {A : Around} {R : Result → Shared → Prop} {s : Shared} {E : Value → Shared → Prop}
set_option maxHeartbeats 4000000
theorem told_spec (G : Gnd w mg mb h₀) (st : h₀.StaysIn s.heap) (hroom : A.depth < 680) (hh : A.handled = none) {sl : Addr} {ks : Nat} {vs : List Value} {ns : List Int}
   (hn : Led h₀ s.heap [(sl, listOf vs.toArray ks)]) (hvs : IntsAre vs ns) (hnf : ∀ j, gnext ns (gst ns j) ≠ .fail)
   (h : ∀ h' tk gens' q k us, Keep [] s.heap h' → s.heap.get? q = none → h'.get? q = some (listOf us.toArray k) → IntsAre us (toldF ns 10 0 []) → (AllBare s.gens → AllBare gens') →
      R (.ok (.ret (.ref q))) { s with heap := h', toks := tk, gens := gens' }) :
   codeAny (model PG w) A (.call (.ref 154) ⟨[.ref sl], []⟩) R s := by
  refine enter G st (by with_unfolding_all rfl) (by with_unfolding_all rfl) (by show A.depth < 1000; walk_at "om") (BindsTo.of_eq (binds := [("sizes", .ref sl)]) rfl) (by exact locs rfl) _ hn ?_
  intro g L' h₁ tk I F N G'
  have XK := G'.k
  obtain ⟨me, TT⟩ := G'.t
  have dlt : sl < L' := I.lt _ (.head _)
  iterate 4 walk1
  (with_reducible rename Fr _ _ _ _ => F1)
  (with_reducible rename News _ _ _ _ => N1)
  refine newList_nil F1 N1 fun tl h2 F2 N2 l2 => ?_
  have ltl : sl < tl := l2 _ (.head _)
  iterate 3 walk1
  refine wpAny_Try_except ?_
  iterate 1 walk1
  refine wpAny_For ?_
  iterate 6 walk1
  (with_reducible rename Fr _ _ _ _ => F4)
  (with_reducible rename News _ _ _ _ => N4)
  refine ⟨XK.keeps F4.keep, ?_⟩
  refine wpAny_call (call_gen G' (by exact F4.keep) (by show A.depth + 1 < 900; walk_at "om") fun h6 tk6 t6 t6' oL kb6 eL nsL ea => ?_)
  dsimp only at eL nsL ea ⊢
  refine wpAny_pyIter_gen (isGen_of ea) ?_
  refine hideP fun G9 hG9 => ?_
  obtain ⟨Lg, e4, lL, gL, F6, N6, lt6⟩ := gen_ledger F4 N4 kb6 ea eL
  refine hG9 ?_
  clear hG9
  rw [← e4] at nsL ⊢
  clear F4 N4 ea eL e4
  have lt : tl < Lg := lt6 _ (.head _)
  have ls : sl < Lg := lt6 _ (.tail _ (.head _))
  refine told_loop (A := A.deeper (tEnv L')) G' ?_ hh (L := L') (Lg := Lg) (a := Lg + 1) (gi := s.gens.size) (tl := tl) (sl := sl) (t := t6) (t' := t6') (vs := vs) (ns := ns) (ks := ks) hvs hnf gL (Nat.ne_of_lt ls) (us := []) (ku := 0) (own := [(Lg, oL)]) (gs := .fresh (.func gBody (gEnv Lg))) ⟨F6, ?_, .nil, Array.getElem?_push_size .., .inl ⟨oL, rfl, rfl, rfl, nsL⟩, rfl, Nat.zero_le _, if_pos rfl, rfl, ?_, ⟨Nat.ne_of_gt (Nat.lt_succ_of_lt lt), Nat.ne_of_lt ltl⟩, fun q => q⟩ ?_
  · show A.depth + 1 < 690; walk_at "om"
  · intro p hp
    rcases List.mem_cons.mp hp with rfl | hp
    · exact N6 _ (.tail _ (.tail _ (.head _)))
    rcases List.mem_cons.mp hp with rfl | hp
    · exact N6 _ (.head _)
    rcases List.mem_cons.mp hp with rfl | hp
    · exact N6 _ (.tail _ (.tail _ (.tail _ (.head _))))
    rcases List.mem_cons.mp hp with rfl | hp
    · exact N6 _ (.tail _ (.head _))
    cases hp
  · intro p hp
    rcases List.mem_cons.mp hp with rfl | hp
    · exact ⟨Nat.ne_of_gt lt, Nat.ne_of_lt (Nat.lt_succ_self _), Nat.ne_of_gt ls⟩
    cases hp
  · intro h7 tk7 gens7 m7 us7 acc7 ku7 htgt hli F7 N7 q1 hab
    dsimp only
    iterate 5 walk1
    exact h h7 tk7 gens7 tl ku7 us7 (I.keepAll hn F7 (List.forall_mem_cons.mpr ⟨(N7 _ (.tail _ (.tail _ (.head _)))).1, List.forall_mem_nil _⟩)) (I.fresh (N7 _ (.head _)).2.2 (fun q => Nat.ne_of_gt ltl (List.mem_singleton.mp q))) (N7 _ (.head _)).1 (htgt ▸ hli) (fun q => hab (q.push rfl))
end
end
theorem Again.at25 {M : Model} {A : Around} {env : Env} {Q : Flow → Shared → Prop} {E : Value → Shared → Prop} {s : Shared} (h : Q .next s) : wpAny M A (execs [] env) Q E s := by w_top off; walk1; exact h
section
open Sem (wp)
set_option maxRecDepth 100000
structure Refused (L : Addr) (outer : List Env) (h h' base : Heap) (e t0 : Addr) (tx : Tok) : Prop where
  sb : base.StaysIn h'
  be : base.get? e = none
  ff : h'.FunFrames base (gEnv L :: outer)
  tr : h'.TracedW base e (.type "ValueError") (.ref t0)
  kp : Keep (L :: outer.filterMap (·.frame)) h base
  tup : base.get? t0 = some { cls := .type "tuple", data := .seq #[.str (Str.ofString "invalid grouping") tx] }
  up : ∀ b o, b ∈ outer.filterMap (·.frame) → h.get? b = some o → (∀ vs, o.data ≠ .fields vs) → ∃ sl, h'.get? b = some { o with slots := sl }
  tn : h.get? t0 = none
  en : h.get? e = none
noncomputable def GF (L : Addr) (outer : List Env) : GenEnd := fun _ s₀ r s₁ =>
  ∃ e h' tk base t0 tx, r = .error (.ref e) ∧ s₁ = { s₀ with heap := h', toks := tk } ∧ Refused L outer s₀.heap h' base e t0 tx
noncomputable def KeepN (h h' : Heap) : Prop := ∀ b o, h.get? b = some o → (∀ vs, o.data ≠ .fields vs) → ∃ sl, h'.get? b = some { o with slots := sl }
theorem KeepN.trans {h h' h'' : Heap} (x : KeepN h h') (y : KeepN h' h'') : KeepN h h'' := fun b o e n => by
  obtain ⟨sl, e1⟩ := x b o e n
  obtain ⟨sl', e2⟩ := y b _ e1 n
  exact ⟨sl', e2⟩
theorem KeepN.of {h h' : Heap} (k : ∀ b o, h.get? b = some o → (∀ vs, o.data ≠ .fields vs) → h'.get? b = some o) : KeepN h h' := fun b o e n => ⟨o.slots, k b o e n⟩
section
variable {M : Model} {A : Around} {E : Value → Shared → Prop} {s : Shared} {base : Heap} {l : List Env} {e : Addr} {cls a0 fl : Value}
theorem flight_some {L : Addr} {Q : Unit → Shared → Prop} {what : String} (hkb : base.StaysIn s.heap) (hl : s.heap.FunFrames base l) (ht : s.heap.TracedAtW base e cls a0 fl)
    (h : ∀ h', base.StaysIn h' → h'.FunFrames base l → h'.TracedAtW base e cls a0 (rawInt L) → KeepN s.heap h' → Q () { s with heap := h' }) :
    wpAny M A (do
        if (← field (.ref e) 1) == Value.none then unsupported what
        setFlight (.ref e) (some L)) Q E s := by
  refine hideP fun G9 hG9 => ?_
  obtain ⟨oe, vs, T, oT, ts, he, hcls, hd, h1, hnT, hTe, hT, hdT, h3⟩ := ht
  refine hG9 ?_
  clear hG9
  have hsz3 : 3 < ts.size := (Array.getElem?_eq_some_iff.mp h3).1
  have other : ∀ b, b ≠ T → (s.heap.update T (Obj.mapFields (·.setIfInBounds 3 ((some L : Option Addr).elim Value.none fun f => rawInt f)))).get? b = s.heap.get? b :=
    fun b hb => Heap.get?_update_other _ _ (Ne.symm hb)
  have noRecord : ∀ b o, s.heap.get? b = some o → (∀ vs, o.data ≠ .fields vs) → b ≠ T := fun b o hb hnf q => by
    rw [q, hT] at hb; injection hb with hb; subst hb; exact hnf ts hdT
  refine wpAny_bind (wpAny_field he hd h1 ?_)
  rw [if_neg (show ¬ ((Value.ref T == Value.none) = true) from by simp)]
  refine (wpAny_bind (wpAny_pure ?_) : wpAny M A ((pure PUnit.unit : Sem PUnit) >>= fun _ => setFlight (.ref e) (some L)) Q E s)
  unfold setFlight
  refine wpAny_bind (wpAny_field he hd h1 ?_)
  rw [if_pos (show (Value.ref T != Value.none) = true from by simp)]
  refine wpAny_setField hT hdT hsz3 (h _ (fun b o hbo => (other b fun q => by rw [q, hnT] at hbo; cases hbo).trans (hkb b o hbo))
    (hl.of_keeps fun b o hb hnf => ⟨o, (other b (noRecord b o hb hnf)).trans hb, rfl⟩) ?_ (KeepN.of fun b o hb hnf => (other b (noRecord b o hb hnf)).trans hb))
  exact ⟨oe, vs, T, _, _, (other e (Ne.symm hTe)).trans he, hcls, hd, h1, hnT, hTe, Heap.get?_update_self _ hT (Obj.isFreed_of_fields (Obj.data_mapFields hdT _)), Obj.data_mapFields hdT _, by simp [hsz3]⟩
theorem note_again {env : Env} {L : Addr} {Q : Unit → Shared → Prop} (hf : env.frame = some L) (ht : s.heap.TracedAtW base e cls a0 (rawInt L)) (h : Q () s) : wpAny M A (noteFrame (.ref e) env) Q E s := by
  refine hideP fun G9 hG9 => ?_
  obtain ⟨oe, vs, T, oT, ts, he, hcls, hd, h1, hnT, hTe, hT, hdT, h3⟩ := ht
  refine hG9 ?_
  clear hG9
  exact wpAny_noteFrame_inFlight hf he hd h1 hT hdT h3 h
theorem flight_none {Q : Unit → Shared → Prop} (hkb : base.StaysIn s.heap) (hl : s.heap.FunFrames base l) (ht : s.heap.TracedAtW base e cls a0 fl)
    (h : ∀ h', base.StaysIn h' → h'.FunFrames base l → h'.TracedW base e cls a0 → KeepN s.heap h' → Q () { s with heap := h' }) : wpAny M A (setFlight (.ref e) none) Q E s :=
  wpAny_setFlight_noneW hkb hl ht fun h' a b c d => h h' a b c (KeepN.of d)
theorem note_first {env : Env} {outer : List Env} {L : Addr} {oe : Obj} {vs : Array Value} {Q : Unit → Shared → Prop} (hfr : A.frames = some (env :: outer)) (hf : env.frame = some L) (hkb : base.StaysIn s.heap) (hen : base.get? e = none) (hl : s.heap.FunFrames base (env :: outer)) (he : s.heap.get? e = some oe) (hd : oe.data = .fields vs) (h1 : vs[1]? = some .none) (h0 : vs[0]? = some a0)
    (h : ∀ h', Heap.NotedW base (env :: outer) e oe.cls a0 (rawInt L) s.heap h' → Q () { s with heap := h' }) : wpAny M A (noteFrame (.ref e) env) Q E s := by
  unfold noteFrame
  simp only [hf]
  refine wpAny_bind (wpAny_field he hd h1 ?_)
  rw [if_neg (by decide)]
  exact wpAny_entryW hfr hl hf he hkb hen hd (Array.getElem?_eq_some_iff.mp h1).1 h0 h
end
theorem seg_back_err {M : Model} {A : Around} {R : GenEnd} {Y : Protocol} {n : Nat} {s₀ : Shared} {c : Code} {fs : List Frame} {s : Shared} {env : Env} {K : Flow → Sem Fin} {H : Value → Sem Fin} {gd : Bool → Bool} {lv : List Value → List Value} {e : Value}
    (h : wpAny M (A.over c fs) (do
        if (← field e 1) == Value.none then unsupported "frame.own-activation:exception-without-traceback"
        setFlight e env.frame) (fun _ s' => Seg M A R Y n s₀ c (H e) fs s') (fun x s' => Seg M A R Y n s₀ c (H x) fs s') s) :
    Seg M A R Y n s₀ c (backK env K H gd lv (.error e)) fs s := by
  unfold backK
  show Seg M A R Y n s₀ c (Sem.wrap K H gd lv ((do
        if (← field e 1) == Value.none then unsupported "frame.own-activation:exception-without-traceback"
        setFlight e env.frame : Sem Unit) >>= fun _ => (.raise e : Sem Flow))) fs s
  rw [Sem.bind_eq_wrap', Sem.wrap_wrap]
  exact seg_wrap h
theorem funFrames_of {h base : Heap} : ∀ {outer : List Env}, (∀ env ∈ outer, env.scope.kind ≠ .module ∧ ∃ L0 o, env.frame = some L0 ∧ base.get? L0 = none ∧ h.get? L0 = some o ∧ ∀ vs, o.data ≠ .fields vs) → h.FunFrames base outer
  | [], _ => trivial
  | env :: r, x => ⟨(x env (.head _)).1, (x env (.head _)).2, funFrames_of fun y hy => x y (.tail _ hy)⟩
section
variable {w : World} {mg mb : Str → Option Value} {h₀ : Heap} {A : Around} {L it l : Addr} {vs : List Value} {ns : List Int}
set_option maxHeartbeats 2000000
theorem seg_fail (G : Gnd w mg mb h₀) (hh : A.handled = none) (hL : h₀.objs.size ≤ L) (o2 : l ≠ L) (hvs : IntsAre vs ns) (hz : ns[0]? = some 0) {outer : List Env} (hfr : A.frames = some outer) {Y : Protocol} {n : Nat} {s : Shared} {m : Str → Option Value} (st : h₀.StaysIn s.heap) (hns : s.heap.Ns L m) (hg : m "grouping" = some (.ref l)) (hl : s.heap.IsList l vs.toArray)
    (hout : ∀ env ∈ outer, env.scope.kind ≠ .module ∧ ∃ L0 o, env.frame = some L0 ∧ s.heap.get? L0 = some o ∧ L0 ≠ L ∧ ∀ vs, o.data ≠ .fields vs) :
    Seg (model PG w) A (GF L outer) Y n s (.func gBody (gEnv L)) ((model PG w).den (.func gBody (gEnv L))) [] s := by
  obtain ⟨it, hit⟩ : ∃ it, s.heap.objs.size = it := ⟨_, rfl⟩
  have XK := G.k
  obtain ⟨me, TT⟩ := G.t
  have hLs : L < s.heap.objs.size := hns.lt
  have hls : l < s.heap.objs.size := by obtain ⟨o, e, _⟩ := hl; exact Heap.lt_size e
  have o1 : it ≠ L := fun q => by rw [q] at hit; rw [hit] at hLs; exact Nat.lt_irrefl _ hLs
  have o3 : l ≠ it := fun q => by rw [q] at hls; rw [hit] at hls; exact Nat.lt_irrefl _ hls
  have hit0 : h₀.get? it = none := by
    cases q : h₀.get? it with
    | none => rfl
    | some o => have := Heap.lt_size (st _ _ q); rw [hit] at this; exact absurd this (Nat.lt_irrefl _)
  have F : Fr h₀ L s.heap m := ⟨hns, st, hL⟩
  refine seg_func ?_
  have e := Eq.refl gBody
  conv at e => rhs; whnf
  rw [show execs gBody (gEnv L) = execs _ (gEnv L) from congrArg (fun b => execs b (gEnv L)) e]
  refine seg_execs_cons (seg_exec ?_)
  iterate 2 walk1
  refine wpAny_storeName_local (by rfl) hns (fun h₁ hn₁ hs₁ => ?_) (by rfl)
  dsimp only
  have F1 := F.set hn₁ hs₁
  have hl1 : h₁.IsList l vs.toArray := hl.at fun o e => (hs₁.2 _ o2).trans e
  refine seg_execs_cons (seg_For ?_)
  refine wpAny_Name (wpAny_loadName_local (by rfl) (by rfl) hn₁ (lk_ne (by decide) hg) ?_) (by decide)
  refine wpAny_pyIter_list hl1 fun p => ?_
  have hsz : h₁.objs.size = it := by rw [hs₁.1]; exact hit
  dsimp only
  rw [hsz]
  have X : GAt h₀ L it l vs s.heap (h₁.push { cls := .type "list_iterator", data := .fields #[.ref l, .int 0 0] }) (fun y => if y = "last_interval" then some Value.none else m y) 0 := ⟨hn₁.push _, fun b o e => Heap.get?_push_of_some _ (F1.keep b o e), fun b o nm e => Heap.get?_push_of_some _ ((hs₁.2 b (fun q => nm (by rw [show b = L from q]; exact List.mem_cons_self))).trans e), ⟨_, Heap.get?_push_at (by rw [hsz]) rfl, rfl, rfl⟩, hl1.push _⟩
  refine seg_forLoop ?_ (by intro _; rfl)
  obtain ⟨tx, hx⟩ := hvs.get 0 0 hz
  have hv' : vs.toArray[0]? = some (.int 0 tx) := by rw [List.getElem?_toArray]; exact hx
  refine wpAny_pyNext_list_item X.itr X.ls hv' fun h₂ hi₂ hs₂ => ?_
  have X2 := X.nxt hi₂ hs₂ hit0 o1 o3
  refine wpAny_assign_Name (wpAny_storeName_local (by rfl) X2.ns (fun h₃ hn₃ hs₃ => ?_) (by rfl))
  have X3 := X2.set hn₃ hs₃ hL o1 o2
  have F3 := X3.fr hL
  clear F F1
  refine seg_execs_cons (seg_exec ?_)
  iterate 5 walk1
  rw [show ((0 : Int) == 127) = false from by decide]
  iterate 4 walk1
  refine seg_execs_cons (seg_If ?_)
  iterate 5 walk1
  rw [if_pos (show ((0 : Int) == 0) = true from rfl)]
  refine seg_execs_cons (seg_exec ?_)
  iterate 9 walk1
  refine wpAny_Raise_call PySem.F.excCall_ValueError PySem.F.excRaise_ValueError (by exact hh) (by rfl) ?_
  iterate 1 walk1
  refine ⟨rfl, ?_⟩
  refine evalArgs_plain ?_
  refine spliced_cons ?_
  refine PySem.Calls.Constant_str (k := 0) (pos := default) (x := Str.ofString "invalid grouping") ?_
  refine spliced_nil ?_
  refine ⟨rfl, by simp [sizeLine_eq], fun h₅ e hm => ?_⟩
  show Seg _ A _ Y n s _ (noteH (gEnv L) (.ref e)) _ _
  have hkey := hm.keeps
  have hnew := hm.new
  refine hideP fun G9 hG9 => ?_
  obtain ⟨t0, he5, ht0n, ht0⟩ := hm.there
  refine hG9 ?_
  clear hG9
  dsimp only at hkey hnew he5 ht0n ht0
  clear hm
  have k3 : ∀ b o, b ≠ L → s.heap.get? b = some o → h₃.get? b = some o := fun b o nb eb => X3.kp b o (by
    intro q
    rcases List.mem_cons.mp q with q | q
    · exact nb q
    · have := Heap.lt_size eb
      rw [List.mem_singleton.mp q, hit] at this
      exact Nat.lt_irrefl _ this) eb
  have k5 : ∀ b o, b ≠ L → s.heap.get? b = some o → h₅.get? b = some o := fun b o nb eb => hkey _ _ (k3 b o nb eb)
  obtain ⟨tz, ht0⟩ : ∃ tz, h₅.get? t0 = some { cls := .type "tuple", data := .seq #[.str (Str.ofString "invalid grouping") tz] } := ⟨_, ht0⟩
  have outL : ∀ b, b ∈ outer.filterMap (·.frame) → b ≠ L ∧ ∃ o, s.heap.get? b = some o := fun b hb => by
    obtain ⟨env, henv, e1⟩ := List.mem_filterMap.mp hb
    refine hideP fun G9 hG9 => ?_
    obtain ⟨x1, L0, o, x2, x3, x4, x5⟩ := hout env henv
    refine hG9 ?_
    clear hG9
    rw [e1] at x2
    cases x2
    exact ⟨x4, o, x3⟩
  obtain ⟨outA, houtA⟩ : ∃ outA, outA = outer.filterMap (·.frame) := ⟨_, rfl⟩
  obtain ⟨base, hbase⟩ : ∃ base, base = PyProof.Rows.TI.gone h₅ (e :: L :: outA) := ⟨_, rfl⟩
  have bn : ∀ b ∈ e :: L :: outA, base.get? b = none := fun b hb => by rw [hbase]; exact PyProof.Rows.TI.gone_none hb
  have bs : ∀ b, b ∉ e :: L :: outA → base.get? b = h₅.get? b := fun b hb => by rw [hbase]; exact PyProof.Rows.TI.gone_get hb
  have sb5 : base.StaysIn h₅ := fun b o eb => (PyProof.Rows.TI.gone_some (hbase ▸ eb)).2
  have hns5 : h₅.Ns L _ := X3.ns.at' fun o e => hkey _ _ e
  have ff5 : h₅.FunFrames base (gEnv L :: outer) := by
    refine Heap.FunFrames.cons (by show ScopeKind.function ≠ ScopeKind.module; decide) rfl hns5 (bn L (.tail _ (.head _))) (funFrames_of fun env henv => ?_)
    refine hideP fun G9 hG9 => ?_
    obtain ⟨x1, L0, o, x2, x3, x4, x5⟩ := hout env henv
    refine hG9 ?_
    clear hG9
    refine ⟨x1, L0, o, x2, bn _ (.tail _ (.tail _ ?_)), k5 _ _ x4 x3, x5⟩
    rw [houtA]
    exact List.mem_filterMap.mpr ⟨env, henv, x2⟩
  unfold noteH
  refine seg_wrap (wpAny_bind ?_)
  refine note_first (base := base) (a0 := .ref t0) (outer := outer) (by simp only [Around.over, hfr]; rfl) rfl sb5 (bn e (.head _)) ff5 he5 rfl rfl rfl fun h₆ N6 => ?_
  refine hideP fun G9 hG9 => ?_
  obtain ⟨sb6, ff6, tr6, up6⟩ := N6
  refine hG9 ?_
  clear hG9
  refine wpAny_theTreesLotGoes ?_
  refine seg_leaf (.error (.ref e)) ?_
  refine seg_back_err ?_
  refine flight_some sb6 ff6 tr6 fun h₇ sb7 ff7 tr7 up7 => ?_
  refine seg_wrap ?_
  unfold leaving
  refine wpAny_bind (note_again rfl tr7 ?_)
  refine flight_none sb7 ff7 tr7 fun h₈ sb8 ff8 tr8 up8 => ?_
  refine seg_end (.error (.ref e)) ?_
  refine ⟨e, h₈, _, base, t0, tz, rfl, rfl, sb8, bn e (.head _), ff8, tr8, ?_, ?_, ?_, ?_, ?_⟩
  · intro b o nb eb
    rw [← houtA] at nb
    have nL : b ≠ L := fun z => nb (by rw [z]; exact List.mem_cons_self)
    rw [bs b (by
      intro q
      rcases List.mem_cons.mp q with q | q
      · have h1 := k3 b o nL eb
        rw [q, hnew] at h1
        cases h1
      · exact nb q)]
    exact k5 b o nL eb
  · rw [bs t0 ?_]
    · exact ht0
    · intro q
      rcases List.mem_cons.mp q with q | q
      · rw [q, he5] at ht0
        have z := congrArg (fun o : Option Obj => o.map (·.cls)) ht0
        simp at z
      rcases List.mem_cons.mp q with q | q
      · refine hideP fun G9 hG9 => ?_
        obtain ⟨o, _, _, eo, _⟩ := X3.ns
        refine hG9 ?_
        clear hG9
        rw [← q, ht0n] at eo; cases eo
      · rw [houtA] at q
        obtain ⟨nL, o, eo⟩ := outL t0 q
        have := k3 _ _ nL eo
        rw [ht0n] at this; cases this
  · intro b o hb eb hnf
    obtain ⟨nL, _, _⟩ := outL b hb
    obtain ⟨sl, e1⟩ := (KeepN.trans (KeepN.trans (fun b o e n => up6 b o e n) up7) up8) b o (k5 b o nL eb) hnf
    exact ⟨sl, e1⟩
  · cases z : s.heap.get? t0 with
    | none => rfl
    | some o =>
      by_cases q : t0 = L
      · refine hideP fun G9 hG9 => ?_
        obtain ⟨o', _, _, eo, _⟩ := X3.ns
        refine hG9 ?_
        clear hG9
        rw [← q, ht0n] at eo; cases eo
      · have := k3 _ _ q z
        rw [ht0n] at this; cases this
  · cases z : s.heap.get? e with
    | none => rfl
    | some o =>
      by_cases q : e = L
      · refine hideP fun G9 hG9 => ?_
        obtain ⟨o', _, _, eo, _⟩ := X3.ns
        refine hG9 ?_
        clear hG9
        rw [← q, hnew] at eo; cases eo
      · have := k3 _ _ q z
        rw [hnew] at this; cases this
end
end
theorem Again.at26 {M : Model} {A : Around} {env : Env} {Q : Flow → Shared → Prop} {E : Value → Shared → Prop} {s : Shared} (h : Q .next s) : wpAny M A (execs [] env) Q E s := by w_top off; walk1; exact h
section
open Sem (wp)
set_option maxRecDepth 100000
section
variable {w : World} {mg mb : Str → Option Value} {h₀ : Heap} {A : Around} {R : Result → Shared → Prop} {s : Shared} {E : Value → Shared → Prop}
set_option maxHeartbeats 4000000
theorem ns_slots {h h' : Heap} {L : Addr} {m : Str → Option Value} {o : Obj} {sl : Array (Option Value)} (x : h.Ns L m) (e : h.get? L = some o) (e' : h'.get? L = some { o with slots := sl }) : h'.Ns L m := by
  refine hideP fun G9 hG9 => ?_
  obtain ⟨o1, es, ep, e1, hd, r⟩ := x
  refine hG9 ?_
  clear hG9
  rw [e] at e1
  cases e1
  exact ⟨_, es, ep, e', hd, r⟩
theorem told_fail (G : Gnd w mg mb h₀) (st : h₀.StaysIn s.heap) (hroom : A.depth < 680) (hh : A.handled = none) (hu : A.units < 8000) {sl L0 : Addr} {ks : Nat} {vs : List Value} {ns : List Int} {o0 : Obj} {env0 : Env}
   (hn : Led h₀ s.heap [(sl, listOf vs.toArray ks), (L0, o0)]) (hvs : IntsAre vs ns) (hz : ns[0]? = some 0) (hfr : A.frames = some [env0]) (hf0 : env0.frame = some L0) (hk0 : env0.scope.kind ≠ .module) (hd0 : ∃ es ep, o0.data = .dict es ep) (hsl : sl ≠ L0)
   (h : ∀ h' tk gens' q k t z0, Keep [L0] s.heap h' → h'.get? L0 = some { o0 with slots := z0 } → s.heap.get? q = none → h'.get? q = some (listOf (strValues [(Str.ofString "invalid grouping", t)]).toArray k) → (AllBare s.gens → AllBare gens') →
      R (.ok (.ret (.ref q))) { s with heap := h', toks := tk, gens := gens' }) :
   codeAny (model PG w) A (.call (.ref 154) ⟨[.ref sl], []⟩) R s := by
  refine enter G st (by with_unfolding_all rfl) (by with_unfolding_all rfl) (by show A.depth < 1000; walk_at "om") (BindsTo.of_eq (binds := [("sizes", .ref sl)]) rfl) (by exact locs rfl) _ hn ?_
  intro g L' h₁ tk I F N G'
  have XK := G'.k
  obtain ⟨me, TT⟩ := G'.t
  have dlt : sl < L' := I.lt _ (.head _)
  have dl0 : L0 < L' := I.lt _ (.tail _ (.head _))
  iterate 4 walk1
  (with_reducible rename Fr _ _ _ _ => F1)
  (with_reducible rename News _ _ _ _ => N1)
  refine newList_nil F1 N1 fun tl h2 F2 N2 l2 => ?_
  have ltl : sl < tl := l2 _ (.head _)
  have ltl0 : L0 < tl := l2 _ (.tail _ (.head _))
  iterate 3 walk1
  refine wpAny_Try_except ?_
  iterate 1 walk1
  refine wpAny_For ?_
  iterate 6 walk1
  (with_reducible rename Fr _ _ _ _ => F4)
  (with_reducible rename News _ _ _ _ => N4)
  refine ⟨XK.keeps F4.keep, ?_⟩
  refine wpAny_call (call_gen G' (by exact F4.keep) (by show A.depth + 1 < 900; walk_at "om") fun h6 tk6 t6 t6' oL kb6 eL nsL ea => ?_)
  dsimp only at eL nsL ea ⊢
  refine wpAny_pyIter_gen (isGen_of ea) ?_
  refine hideP fun G9 hG9 => ?_
  obtain ⟨Lg, e4, lL, gL, F6, N6, lt6⟩ := gen_ledger F4 N4 kb6 ea eL
  refine hG9 ?_
  clear hG9
  rw [← e4] at nsL ⊢
  clear F4 N4 ea eL e4
  have lt : tl < Lg := lt6 _ (.head _)
  have ls : sl < Lg := lt6 _ (.tail _ (.head _))
  have l0g : L0 < Lg := lt6 _ (.tail _ (.tail _ (.head _)))
  refine hideR fun R9 hR9 => ?_
  refine codeAny_forLoop (fun k s' => k = 0 ∧ s' = { s with heap := h6, toks := tk6, gens := s.gens.push (.fresh (.func gBody (gEnv Lg))) }) ?_ 0 ⟨rfl, rfl⟩ (by intro _; rfl)
  rintro k s' ⟨rfl, rfl⟩
  have eA := N6 (Lg + 1, genObj s.gens.size t6 t6') (.head _)
  have eL := N6 (Lg, oL) (.tail _ (.head _))
  have eS := N6 (sl, listOf vs.toArray ks) (.tail _ (.tail _ (.tail _ (.head _))))
  have e0 := N6 (L0, o0) (.tail _ (.tail _ (.tail _ (.tail _ (.head _)))))
  refine hideP fun G9 hG9 => ?_
  obtain ⟨oF, esF, epF, eF, hdF, nsF⟩ := id F6.ns
  refine hG9 ?_
  clear hG9
  have hu1 : A.units + 3 + 2 < cLine := by show A.units + 3 + 2 < 9900; walk_at "om"
  obtain ⟨es0, ep0, hd0⟩ := hd0
  refine next_gen (R := GF Lg [tEnv L', env0]) (Y := fun _ _ _ _ _ => False) (n := 1) (gs := .fresh (.func gBody (gEnv Lg))) (t := t6) (t' := t6') (by exact hh) (TT.nolimit.keeps F6.keep) (by show A.depth + 1 < 1000; walk_at "om") eA.1 (Array.getElem?_push_size ..) ⟨rfl, ?_⟩ (fun _ _ _ _ x => x.elim) ?_
  · refine seg_fail (A := (A.deeper (tEnv L')).in1) G' hh gL (Nat.ne_of_lt ls) hvs hz (outer := [tEnv L', env0]) (by show A.frames.map _ = _; rw [hfr]; rfl) F6.keep (nsL _ eL.1) (by rfl) ⟨_, eS.1, rfl, _, rfl⟩ ?_
    intro env henv
    simp only [List.mem_cons, List.not_mem_nil, or_false] at henv
    rcases henv with rfl | rfl
    · exact ⟨by show ScopeKind.function ≠ ScopeKind.module; decide, L', oF, rfl, eF, Nat.ne_of_lt lL, fun vs q => by rw [hdF] at q; cases q⟩
    · exact ⟨hk0, L0, o0, hf0, e0.1, Nat.ne_of_lt l0g, fun vs q => by rw [hd0] at q; cases q⟩
  · rintro r s₁ ⟨e, h8, tk8, base, t0, tx, rfl, rfl, X⟩
    have hfl2 : [tEnv L', env0].filterMap (·.frame) = [L', L0] := by simp [hf0]
    have hfl : Lg :: [tEnv L', env0].filterMap (·.frame) = [Lg, L', L0] := by rw [hfl2]
    refine .inr ⟨e, rfl, ?_, ?_, ?_⟩
    · refine hideP fun G9 hG9 => ?_
      obtain ⟨oe, _, _, _, _, he, hc, _⟩ := X.tr
      refine hG9 ?_
      clear hG9
      exact ⟨oe, he, hc.1⟩
    · refine X.sb _ _ (X.kp _ _ ?_ eA.1)
      rw [hfl]
      intro q
      rcases List.mem_cons.mp q with q | q
      · exact Nat.ne_of_gt (Nat.lt_succ_self Lg) q
      rcases List.mem_cons.mp q with q | q
      · exact Nat.ne_of_gt (Nat.lt_succ_of_lt lL) q
      · exact Nat.ne_of_gt (Nat.lt_succ_of_lt l0g) (List.mem_singleton.mp q)
    · show wpAny _ _ (noteFrame (.ref e) (tEnv L')) _ _ _
      refine wpAny_noteFrame_onW (base := base) (outer := [env0]) (by show A.frames.map _ = _; rw [hfr]; rfl) X.ff.2.2 rfl X.tr X.sb X.be fun h9 N9 => ?_
      refine hR9 _ _ ?_
      refine hideP fun G9 hG9 => ?_
      obtain ⟨sb9, ff9, tr9, up9⟩ := N9
      refine hG9 ?_
      clear hG9
      refine flight_some sb9 ff9 tr9 fun h10 sb10 ff10 tr10 up10 => ?_
      refine note_again rfl tr10 ?_
      refine flight_none sb10 ff10 tr10 fun h11 sb11 ff11 tr11 up11 => ?_
      have K811 : KeepN h8 h11 := KeepN.trans (KeepN.trans (fun b o e n => up9 b o e n) up10) up11
      have gL' : g.get? L' = none := Heap.get?_none_of_le F6.above
      have new6 : ∀ b, h6.get? b = none → g.get? b = none ∧ b ≠ L' := fun b hb => by
        refine ⟨?_, fun q => ?_⟩
        · cases z : g.get? b with
          | none => rfl
          | some o => rw [F6.keep _ _ z] at hb; cases hb
        · rw [q, eF] at hb; cases hb
      have eT := N6 (tl, listOf (strValues []).toArray 0) (.tail _ (.tail _ (.head _)))
      have key : ∀ hx : Heap, base.StaysIn hx → hx.TracedW base e (.type "ValueError") (.ref t0) → KeepN h8 hx → ∃ z0 oe evs, Fr g L' hx (fun y => if y = "told" then some (.ref tl) else [((Str.ofString "sizes"), Value.ref sl)].reverse.lookup y) ∧
          News g L' hx [(tl, listOf (strValues []).toArray 0), (sl, listOf vs.toArray ks), (L0, { o0 with slots := z0 }), (e, oe), (t0, { cls := .type "tuple", data := .seq #[.str (Str.ofString "invalid grouping") tx] })] ∧ oe.cls = .type "ValueError" ∧ oe.data = .fields evs ∧ evs[0]? = some (.ref t0) := by
        intro hx sbx trx Kx
        have keep : ∀ b o, b ≠ Lg → b ≠ L' → b ≠ L0 → h6.get? b = some o → hx.get? b = some o := fun b o b1 b2 b3 eb => sbx _ _ (X.kp _ _ (by
          rw [hfl]
          intro q
          rcases List.mem_cons.mp q with q | q
          · exact b1 q
          rcases List.mem_cons.mp q with q | q
          · exact b2 q
          · exact b3 (List.mem_singleton.mp q)) eb)
        obtain ⟨z1, u1⟩ := X.up L' oF (by rw [hfl2]; exact List.mem_cons_self) eF (fun vs q => by rw [hdF] at q; cases q)
        obtain ⟨z1, u1⟩ := Kx L' _ u1 (fun vs q => by have q : oF.data = .fields vs := q; rw [hdF] at q; cases q)
        obtain ⟨z0, u0⟩ := X.up L0 o0 (by rw [hfl2]; exact .tail _ (.head _)) e0.1 (fun vs q => by rw [hd0] at q; cases q)
        obtain ⟨z0, u0⟩ := Kx L0 _ u0 (fun vs q => by have q : o0.data = .fields vs := q; rw [hd0] at q; cases q)
        dsimp only at u1 u0
        have ns11 := ns_slots F6.ns eF u1
        refine hideP fun G9 hG9 => ?_
        obtain ⟨oe, evs, T, oT, tts, he, ⟨hce, h0e⟩, hde, _⟩ := trx
        refine hG9 ?_
        clear hG9
        have kg : ∀ b o, g.get? b = some o → hx.get? b = some o := fun b o eb => keep b o (fun q => by rw [q, eL.2.2] at eb; cases eb) (fun q => by rw [q, gL'] at eb; cases eb) (fun q => by rw [q, e0.2.2] at eb; cases eb) (F6.keep _ _ eb)
        refine ⟨z0, oe, evs, ⟨ns11, kg, F6.above⟩, List.forall_mem_cons.mpr ⟨⟨keep _ _ (Nat.ne_of_lt lt) eT.2.1 (Nat.ne_of_gt ltl0) eT.1, eT.2⟩, List.forall_mem_cons.mpr ⟨⟨keep _ _ (Nat.ne_of_lt ls) eS.2.1 hsl eS.1, eS.2⟩, List.forall_mem_cons.mpr ⟨⟨u0, e0.2⟩, List.forall_mem_cons.mpr ⟨⟨he, (new6 _ X.en).2, (new6 _ X.en).1⟩, List.forall_mem_cons.mpr ⟨⟨sbx _ _ X.tup, (new6 _ X.tn).2, (new6 _ X.tn).1⟩, List.forall_mem_nil _⟩⟩⟩⟩⟩, hce, hde, h0e⟩
      refine hideP fun G9 hG9 => ?_
      obtain ⟨za, oea, evsa, F11, N11, hce, _, _⟩ := key h11 sb11 tr11 K811
      refine hG9 ?_
      clear hG9
      refine wpAny_handleBy_builtin_as (X := "ValueError") (T := "ValueError") (b := true) (by rfl) (by rfl) (by rfl) ?_
      iterate 1 walk1
      refine ⟨rfl, ⟨oea, (N11 _ (.tail _ (.tail _ (.tail _ (.head _))))).1, hce⟩, ?_⟩
      rw [if_pos rfl]
      clear F11 N11 F6
      refine flight_none sb11 ff11 tr11.at fun h12 sb12 ff12 tr12 up12 => ?_
      refine hideP fun G9 hG9 => ?_
      obtain ⟨z0, oe, evs, F12, N12, hce, hde, h0e⟩ := key h12 sb12 tr12 (K811.trans up12)
      refine hG9 ?_
      clear hG9
      iterate 15 walk1
      (with_reducible rename Fr _ _ _ _ => F13)
      (with_reducible rename News _ _ _ _ => N13)
      refine PySem.P.str_of_exc_one (X := "ValueError") PySem.F.excStr_ValueError (by show A.units + 3 + 2 < 9900; walk_at "om") (t0 := t0) (m := Str.ofString "invalid grouping") (tk := tx) ⟨oe, evs, (N13 _ (.tail _ (.tail _ (.tail _ (.head _))))).1, hce, hde, h0e⟩ ⟨_, _, (N13 _ (.tail _ (.tail _ (.tail _ (.tail _ (.head _)))))).1, rfl, rfl⟩ ?_
      iterate 1 walk1
      have nE : e ≠ tl := fun q => by have z := eT.1; have y : h6.get? e = none := X.en; dsimp only at z; rw [← q, y] at z; cases z
      have nT : t0 ≠ tl := fun q => by have z := eT.1; have y : h6.get? t0 = none := X.tn; dsimp only at z; rw [← q, y] at z; cases z
      refine append_K F13 N13 (.head fun p hp => ?_) (fun h14 F14 N14 => ?_) (by simp [strValues, sizeLine_eq])
      · simp only [List.mem_cons, List.not_mem_nil, or_false] at hp
        rcases hp with rfl | rfl | rfl | rfl
        · exact Nat.ne_of_lt ltl
        · exact Nat.ne_of_lt ltl0
        · exact nE
        · exact nT
      rw [push_str] at N14
      iterate 2 walk1
      refine PyProof.Rows.name_goes_keeps F14 N14 (fun h15 v15 F15 N15 => ?_) rfl rfl
      iterate 3 walk1
      have kb := I.keepBack F15
      refine h h15 _ _ tl _ tx z0 ?_ (N15 _ (.tail _ (.tail _ (.head _)))).1 (I.fresh (N15 _ (.head _)).2.2 ?_) (N15 _ (.head _)).1 (fun q => ?_)
      · intro b o nb eb
        by_cases b1 : b = sl
        · subst b1
          have z := (hn _ (.head _)).1
          rw [eb] at z
          exact (N15 _ (.tail _ (.head _))).1.trans z.symm
        · exact kb b o (by
            rw [List.map_cons, List.map_cons, List.map_nil]
            intro q
            rcases List.mem_cons.mp q with q | q
            · exact b1 q
            · exact nb q) eb
      · rw [List.map_cons, List.map_cons, List.map_nil]
        intro q
        rcases List.mem_cons.mp q with q | q
        · exact Nat.ne_of_gt ltl q
        · exact Nat.ne_of_gt ltl0 (List.mem_singleton.mp q)
      · exact bare_two (s := { s with gens := s.gens.push (.fresh (.func gBody (gEnv Lg))) }) (s₁ := { ({ s with heap := h6, toks := tk6, gens := s.gens.push (.fresh (.func gBody (gEnv Lg))) } : Shared).setGen s.gens.size .running with heap := h8, toks := tk8 }) (g := s.gens.size) (x := .running) (y := .finished) rfl rfl rfl (q.push rfl)
end
end
section
set_option maxRecDepth 100000
noncomputable def lawDef : Stmt := (PySem.Challenge.rw_sl0005_01.row.prog.main.body).getD 21 (.Pass default)
noncomputable abbrev lEnv (L fa : Addr) : Env := envX "law" (defS lawDef) L fa (.ref 158) (cellsFrom (L + 1) (defS lawDef).names [])
theorem my_post {M : Model} {A : Around} {cd : Code} {s s₁ : Shared} {cw : ClaimW} {cl : Str → Option Addr} {mean : ExcName → Option Value} {args : List WData} {tabs : List (Addr × Addr)} (hT : TabsAt tabs s₁.heap) (hr : ∀ x, cw.raises args x = false) (hp : cw.post args (.bool true) args = true)
    (h : codeAny M A cd (fun r s' => r = .ok (.ret (.bool true)) ∧ (∀ b o, (ghostOf s₁.heap tabs).get? b = some o → s'.heap.get? b = some o) ∧ s'.os = s₁.os ∧ AllBare s'.gens ∧ GrownAll tabs s'.heap) s) : codeAny M A cd (GoodWG cw cl mean args s₁) s :=
  codeAny_mono h fun r s' ⟨hc, hk, hos, hg, hgr⟩ => by
    have keep : ∀ b o, b ∉ tabs.map (·.2) → s₁.heap.get? b = some o → s'.heap.get? b = some o := fun b o hb e => hk b o (ghost_ne e hb)
    have grown : ∀ b o, b ∈ tabs.map (·.2) → s₁.heap.get? b = some o → isCodeTable s₁.heap b ∧ o = tabObj #[] ∧ ∃ ps, s'.heap.get? b = some (tabObj ps) := fun b o hb e => by
      obtain ⟨q, hq, rfl⟩ := List.mem_map.mp hb
      have e2 := (hT q hq).2
      rw [e] at e2
      exact ⟨((hT q hq).1.tab (hT q hq).2).isCodeTable, Option.some.inj e2, hgr.get q hq⟩
    refine ⟨.inl ⟨.bool true, .bool true, [], hc, hr, .bool true, hp, unshared_nil⟩, ⟨fun b o e => ?_, fun b o e => ?_⟩, hos, hg⟩
    · by_cases hb : b ∈ tabs.map (·.2)
      · obtain ⟨ht, rfl, ps, hP⟩ := grown b o hb e
        exact .inr (.inl ⟨ht, rfl, #[], ps, rfl, by rw [Array.empty_append]; exact hP⟩)
      · exact .inl (keep b o hb e)
    · by_cases hb : b ∈ tabs.map (·.2)
      · obtain ⟨_, _, ps, hP⟩ := grown b o hb e
        exact ⟨_, hP⟩
      · exact ⟨o, keep b o hb e⟩
end
theorem Again.at27 {M : Model} {A : Around} {env : Env} {Q : Flow → Shared → Prop} {E : Value → Shared → Prop} {s : Shared} (h : Q .next s) : wpAny M A (execs [] env) Q E s := by w_top off; walk1; exact h
section
set_option maxRecDepth 100000
noncomputable def lBody : List Stmt := defB lawDef
noncomputable def optA (i : Nat) : Option Str := if i / 3 = 0 then none else if i / 3 = 1 then some "b" else some "\\"
noncomputable def optB (i : Nat) : Option Str := if i % 3 = 0 then none else if i % 3 = 1 then some "" else some " \""
theorem pickA (t1 t2 : Tok) (i : Nat) (hi : i < 8) : ∃ t, [Value.none, .str (Str.ofString "b") t1, .str (Str.ofString "\\") t2][i / 3]? = some (optV (optA i) t) := by
  unfold optA
  by_cases h0 : i / 3 = 0
  · rw [if_pos h0, h0]; exact ⟨t1, rfl⟩
  · by_cases h1 : i / 3 = 1
    · rw [if_neg h0, if_pos h1, h1]; exact ⟨t1, rfl⟩
    · rw [if_neg h0, if_neg h1, show i / 3 = 2 by walk_at "om"]; exact ⟨t2, rfl⟩
theorem pickB (t1 t2 : Tok) (i : Nat) : ∃ t, [Value.none, .str (Str.ofString "") t1, .str (Str.ofString " \"") t2][i % 3]? = some (optV (optB i) t) := by
  unfold optB
  by_cases h0 : i % 3 = 0
  · rw [if_pos h0, h0]; exact ⟨t1, rfl⟩
  · by_cases h1 : i % 3 = 1
    · rw [if_neg h0, if_pos h1, h1]; exact ⟨t1, rfl⟩
    · rw [if_neg h0, if_neg h1, show i % 3 = 2 by walk_at "om"]; exact ⟨t2, rfl⟩
noncomputable def nms : List Str := (List.range 8).map fun i => locn (optA i) (optB i)
section
variable {w : World} {mg mb : Str → Option Value} {g : Heap} {A : Around} {s : Shared} {E : Value → Shared → Prop} {Q : Flow → Shared → Prop}
set_option maxHeartbeats 4000000
theorem law_s1 (G : Gnd w mg mb g) (hroom : A.depth < 500) (hh : A.handled = none) {L fa sc : Addr} {c1 c2 c3 c4 : Obj} {v1 v2 v3 v4 : Option Value} {m : Str → Option Value} {vs : List Value} {ns : List Int}
   (F : Fr g L s.heap m) (N : News g L s.heap [(L + 4, c4), (L + 3, c3), (L + 2, c2), (L + 1, c1), (120, tabObj #[]), (156, tabObj #[])]) (d1 : c1.data = .cell v1) (d2 : c2.data = .cell v2) (d3 : c3.data = .cell v3) (d4 : c4.data = .cell v4)
   (hm : m "script" = some (.ref sc)) (hs : g.IsList sc vs.toArray) (hi : IntsAre vs ns) (h63 : ns.length ≤ 63)
   (l1 : @LT.lt Nat _ 120 L) (l2 : @LT.lt Nat _ 156 L)
   (hQ : ∀ h' tk m' cl dl nl pl (f : Nat → Int) (tf : Nat → Tok) gl nmt kc kd kn o3 o4, (∀ i, 0 ≤ f i) → gl.map (·.1) = nms → nmt.map (·.1) = nms → o3.data = .cell (some (.ref nl)) → o4.data = .cell (some (.ref pl)) → m' "cells" = some (.ref cl) → m' "given" = some (.ref dl) → Fr g L h' m' →
      News g L h' [(pl, listOf ([] : List Value).toArray 0), (nl, listOf (strValues nmt).toArray kn), (dl, listOf (strValues gl).toArray kd), (cl, listOf ((List.range 8).map fun i => Value.int (f i) (tf i)).toArray kc), (L + 4, o4), (L + 3, o3), (L + 2, c2), (L + 1, c1), (120, tabObj #[]), (156, tabObj #[])] →
      @LT.lt Nat _ (L + 4) cl → @LT.lt Nat _ cl nl → @LT.lt Nat _ dl nl → @LT.lt Nat _ nl pl → (@Ne Nat cl dl ∧ @Ne Nat (L + 4) dl ∧ @Ne Nat (L + 3) dl ∧ @Ne Nat (L + 2) dl ∧ @Ne Nat (L + 1) dl ∧ @Ne Nat 120 dl ∧ @Ne Nat 156 dl) →
      wpAny (model PG w) A (execs (lBody.drop 4) (lEnv L fa)) Q E { s with heap := h', toks := tk }) : wpAny (model PG w) A (execs lBody (lEnv L fa)) Q E s := by
  have XK := G.k
  obtain ⟨me, TT⟩ := G.t
  have e1 := Eq.refl lBody
  conv at e1 => rhs; whnf
  rw [e1]
  iterate 28 walk1
  (with_reducible rename Fr _ _ _ _ => F2)
  (with_reducible rename News _ _ _ _ => N2)
  (with_reducible rename _ ∧ _ => q1)
  refine ⟨XK.keeps F2.keep, ?_⟩
  rename_i cl _
  have ltc : @LT.lt Nat _ L (L + 1) := Nat.lt_succ_self _
  refine wpAny_call (cells_spec G (by exact F2.keep) (by walk_at "om") hh hs hi h63 (k := 0) (cs := (List.range 8).map fun i => .int (([4, 8, 17, 5, 11, 20, 4, 12] : List Int).getD i 0) (s.toks + i)) (Mine.News.led (L := L) (List.forall_mem_cons.mpr ⟨N2 _ (.head _), List.forall_mem_nil _⟩)) ⟨_, _, rfl, ?_⟩ fun h3 tk3 cs k3 kb3 hc3 hok3 => ?_)
  · intro i
    match i with
    | 0 | 1 | 2 | 3 | 4 | 5 | 6 | 7 => decide
    | i + 8 => exact Int.le_refl _
  have F3 := Fr.after F2 kb3 (fun q => (N2 _ (.head _)).2.1 (List.mem_singleton.mp q).symm) (fun a ha => by rw [List.mem_singleton.mp ha]; exact (N2 _ (.head _)).2.2)
  have N3 : News g L h3 [(cl, listOf cs.toArray k3), (L + 4, c4), (L + 3, c3), (L + 2, c2), (L + 1, c1), (120, tabObj #[]), (156, tabObj #[])] := Mine.News.told N2 rfl (List.forall_mem_cons.mpr ⟨hc3, fun p hp => kb3 _ _ (by
    simp only [List.mem_cons, List.not_mem_nil, or_false] at hp ⊢
    rcases hp with rfl | rfl | rfl | rfl | rfl | rfl <;> (refine neN ?_; dsimp only; walk_at "om")) (N2 p (.tail _ hp)).1⟩)
  clear F2 N2
  dsimp only
  iterate 10 walk1
  (with_reducible rename Fr _ _ _ _ => F4)
  (with_reducible rename News _ _ _ _ => N4)
  refine range1_rows F4 N4 fun h5 tk5 t5 u5 v5 hr5 F5 N5 _ => ?_
  refine LCg.CompSrc.range (n := 8) (by exact hh) F5 N5 hr5 (by decide) (by decide) (by rw [sizeLine_eq]; walk_at "om") (fun g2 => ?_)
  refine CompRest.turns (n := 8) (fun i ys news2 => ∃ gl : List (Str × Tok), ys = strValues gl ∧ gl.map (·.1) = (List.range i).map (fun i => locn (optA i) (optB i)) ∧ news2 = [(cl, listOf cs.toArray k3), (L + 4, c4), (L + 3, c3), (L + 2, c2), (L + 1, c1), (120, tabObj #[]), (156, tabObj #[])]) (fun i ys news1 v I2 oI C oC D m₂ h tk E' Qt hT hi hJ hP hC hx F N off ne => ?_) (fun ys news j => ?_) _ _ _ _ (Nat.zero_add _) ⟨[], rfl, rfl, ?_⟩
  · obtain ⟨gl, rfl, hgl, rfl⟩ := hJ
    obtain ⟨t, rfl⟩ := hP
    iterate 21 walk1
    have eA : (0 + (i : Int)).fdiv 3 = ((i / 3 : Nat) : Int) := by rw [Int.fdiv_eq_ediv_of_nonneg _ (by decide)]; walk_at "om"
    have eB : (0 + (i : Int)).fmod 3 = ((i % 3 : Nat) : Int) := by rw [Int.fmod_eq_emod_of_nonneg _ (by decide)]; walk_at "om"
    rw [eA]
    (with_reducible rename News _ _ _ _ => N6)
    obtain ⟨ta, pa⟩ := pickA _ _ i hi
    refine item_litK ⟨_, N6.get (.head _), rfl, _, rfl⟩ (by walk_at "om") (by simp; walk_at "om") (by rw [Int.toNat_natCast]; exact pa) ?_
    clear pa
    iterate 15 walk1
    rw [eB]
    (with_reducible rename News _ _ _ _ => N7)
    obtain ⟨tb, pb⟩ := pickB _ _ i
    refine item_litK ⟨_, N7.get (.head _), rfl, _, rfl⟩ (by walk_at "om") (by simp; walk_at "om") (by rw [Int.toNat_natCast]; exact pb) ?_
    clear pb
    iterate 3 walk1
    (with_reducible rename Fr _ _ _ _ => F8)
    (with_reducible rename News _ _ _ _ => N8)
    refine ⟨XK.keeps F8.keep, ?_⟩
    have szA : ∀ x, optA i = some x → x.cps.size ≤ 400000 := by
      intro x hx
      unfold optA at hx
      split at hx
      · cases hx
      · split at hx <;> (cases hx; decide)
    have szB : ∀ x, optB i = some x → x.cps.size ≤ 400000 := by
      intro x hx
      unfold optB at hx
      split at hx
      · cases hx
      · split at hx <;> (cases hx; decide)
    refine wpAny_call (locname_spec (a := optA i) (b := optB i) G (by exact F8.keep) (by walk_at "om") hh (Mine.News.led (L := L) (List.forall_mem_cons.mpr ⟨N8 _ (.head _), List.forall_mem_nil _⟩)) szA szB fun h9 tk9 t9 kb9 => ?_)
    replace F8 := F8.kept (Keep.all kb9)
    replace N8 := N8.grown (Keep.all kb9)
    refine hT _ _ ⟨h9, tk9, _, rfl, F8, fun p hp => N8 p (.tail _ (.tail _ (.tail _ hp))), off, trivial, gl ++ [(locn (optA i) (optB i), t9)], by simp [strValues], ?_, rfl⟩
    rw [List.map_append, hgl, List.range_succ, List.map_append]
    rfl
  · obtain ⟨gl, rfl, hgl, rfl⟩ := j
    intro D h6 tk6 F6 N6 off6
    simp only [LCg.Off1, and_true] at off6
    dsimp only
    iterate 30 walk1
    (with_reducible rename Fr _ _ _ _ => F9)
    (with_reducible rename News _ _ _ _ => N9)
    obtain ⟨f, tf, rfl, hf⟩ := hok3
    refine hQ _ _ _ cl D _ _ f tf gl [(Str.ofString "C", tk6), (Str.ofString "C.", tk6 + 1), (Str.ofString "C. \"", tk6 + 1 + 1), (Str.ofString "b", tk6 + 1 + 1 + 1), (Str.ofString "b.", tk6 + 1 + 1 + 1 + 1), (Str.ofString "b. \"", tk6 + 1 + 1 + 1 + 1 + 1), (Str.ofString "\\", tk6 + 1 + 1 + 1 + 1 + 1 + 1), (Str.ofString "\\.", tk6 + 1 + 1 + 1 + 1 + 1 + 1 + 1)] k3 _ 0 _ _ hf (by rw [hgl]; rfl) (by show [Str.ofString "C", Str.ofString "C.", Str.ofString "C. \"", Str.ofString "b", Str.ofString "b.", Str.ofString "b. \"", Str.ofString "\\", Str.ofString "\\."] = nms; decide +kernel) (by assumption) (by assumption) ?_ ?_ F9 N9 ?_ ?_ ?_ ?_ off6
    · exact (if_neg (by decide)).trans (if_pos rfl)
    · exact if_pos rfl
    · walk_at "om"
    · walk_at "om"
    · walk_at "om"
    · walk_at "om"
  · rfl
end
end
theorem Again.at28 {M : Model} {A : Around} {env : Env} {Q : Flow → Shared → Prop} {E : Value → Shared → Prop} {s : Shared} (h : Q .next s) : wpAny M A (execs [] env) Q E s := by w_top off; walk1; exact h
section
set_option maxRecDepth 100000
noncomputable def pths (b : Nat → Nat) : Nat → List (List Int)
  | 0 => []
  | k + 1 => pths b k ++ [(if b k = k then [] else (pths b k).getD (b k) []) ++ [-(k : Int)]]
theorem pths_succ (b : Nat → Nat) (k : Nat) : pths b (k + 1) = pths b k ++ [(if b k = k then [] else (pths b k).getD (b k) []) ++ [-(k : Int)]] := rfl
theorem pths_len (b : Nat → Nat) : ∀ k, (pths b k).length = k
  | 0 => rfl
  | k + 1 => by rw [pths, List.length_append, pths_len b k]; rfl
theorem pths_le {b : Nat → Nat} : ∀ {k : Nat} {d : List Int}, d ∈ pths b k → d.length ≤ k
  | 0, _, h => by cases h
  | k + 1, d, h => by
    rcases List.mem_append.mp h with h | h
    · exact Nat.le_succ_of_le (pths_le h)
    · rw [List.mem_singleton.mp h, List.length_append, List.length_singleton]
      split
      · exact Nat.succ_le_succ (Nat.zero_le _)
      · rw [List.getD_eq_getElem?_getD]
        cases e : (pths b k)[b k]? with
        | none => exact Nat.succ_le_succ (Nat.zero_le _)
        | some x => exact Nat.succ_le_succ (pths_le (List.mem_of_getElem? e))
noncomputable def PathsAre : List (Addr × Obj) → List (List Int) → Prop
  | [], [] => True
  | p :: r, d :: e => (∃ vs, p.2 = listOf vs.toArray 0 ∧ IntsAre vs d) ∧ PathsAre r e
  | _, _ => False
theorem PathsAre.snoc : ∀ {ps : List (Addr × Obj)} {ds : List (List Int)} {p : Addr × Obj} {d : List Int}, PathsAre ps ds → (∃ vs, p.2 = listOf vs.toArray 0 ∧ IntsAre vs d) → PathsAre (ps ++ [p]) (ds ++ [d])
  | [], [], _, _, _, h => ⟨h, trivial⟩
  | [], _ :: _, _, _, x, _ => x.elim
  | _ :: _, [], _, _, x, _ => x.elim
  | _ :: _, _ :: _, _, _, x, h => ⟨x.1, PathsAre.snoc x.2 h⟩
theorem PathsAre.length : ∀ {ps : List (Addr × Obj)} {ds : List (List Int)}, PathsAre ps ds → ps.length = ds.length
  | [], [], _ => rfl
  | [], _ :: _, x => x.elim
  | _ :: _, [], x => x.elim
  | _ :: _, _ :: _, x => congrArg (· + 1) (PathsAre.length x.2)
theorem PathsAre.at : ∀ {ps : List (Addr × Obj)} {ds : List (List Int)}, PathsAre ps ds → ∀ (j : Nat), j < ds.length → ∃ p vs, ps[j]? = some p ∧ p.2 = listOf vs.toArray 0 ∧ IntsAre vs (ds.getD j [])
  | [], [], _, j, h => absurd h (Nat.not_lt_zero _)
  | [], _ :: _, x, _, _ => x.elim
  | _ :: _, [], x, _, _ => x.elim
  | p :: _, d :: _, x, 0, _ => let ⟨vs, a, b⟩ := x.1; ⟨p, vs, rfl, a, b⟩
  | _ :: _, _ :: _, x, j + 1, h => PathsAre.at x.2 j (Nat.lt_of_succ_lt_succ h)
inductive JL (cl pl it L : Addr) (dv : Value) (f : Nat → Int) (tf : Nat → Tok) (kc : Nat) (o4 : Obj) (rest : List (Addr × Obj)) (i : Nat) (m' : Str → Option Value) (news' : List (Addr × Obj)) : Prop
  | mk (m1 : m' "cells" = some (.ref cl)) (m2 : m' "given" = some dv) (kp : Nat) (pls : List (Addr × Obj)) (hpa : PathsAre pls (pths (bossOf f) i)) (hpl : ∀ p ∈ pls, it < p.1) (e : news' = (pl, listOf (pls.map fun p => Value.ref p.1).toArray kp) :: (cl, listOf ((List.range 8).map fun i => Value.int (f i) (tf i)).toArray kc) :: (L + 4, o4) :: (rest ++ pls))
section
variable {w : World} {mg mb : Str → Option Value} {g : Heap} {A : Around} {s : Shared} {E : Value → Shared → Prop} {Q : Flow → Shared → Prop}
set_option maxHeartbeats 4000000
theorem newList_vals {M : Model} {L : Addr} {m : Str → Option Value} {news : List (Addr × Obj)} {Q : Value → Shared → Prop} (us : List Value) (F : Fr g L s.heap m) (N : News g L s.heap news)
    (h : ∀ q h', Fr g L h' m → News g L h' ((q, listOf us.toArray 0) :: news) → (∀ p ∈ news, p.1 < q) → Q (.ref q) { s with heap := h' }) (hz : us.length ≤ 100) : wpAny M A (newList us) Q E s := by
  refine wpAny_newObj_type ?_ (by show us.toArray.size ≤ _; rw [List.size_toArray, sizeLine_eq]; walk_at "om")
  obtain ⟨F3, N3, l3⟩ := ks_newsPush (s := s) (o := listOf us.toArray 0) F N rfl (Heap.get?_push_at rfl rfl) (fun b o e => Heap.get?_push_of_some _ e)
  exact h _ _ F3 N3 l3
theorem law_s2 (G : Gnd w mg mb g) (hroom : A.depth < 500) (hh : A.handled = none) {L fa cl pl : Addr} {o4 : Obj} {m : Str → Option Value} {f : Nat → Int} {tf : Nat → Tok} {kc : Nat} {rest : List (Addr × Obj)} {dv : Value}
   (F : Fr g L s.heap m) (N : News g L s.heap ((pl, listOf ([] : List Value).toArray 0) :: (cl, listOf ((List.range 8).map fun i => Value.int (f i) (tf i)).toArray kc) :: (L + 4, o4) :: rest)) (hf : ∀ i, 0 ≤ f i) (d4 : o4.data = .cell (some (.ref pl))) (m1 : m "cells" = some (.ref cl)) (m2 : m "given" = some dv)
   (n1 : @Ne Nat cl pl) (n2 : @Ne Nat (L + 4) pl) (n3 : ∀ p ∈ rest, p.1 ≠ pl)
   (hQ : ∀ h' tk m' kp pls, PathsAre pls (pths (bossOf f) 8) → m' "cells" = some (.ref cl) → m' "given" = some dv → Fr g L h' m' → News g L h' ((pl, listOf (pls.map fun p => Value.ref p.1).toArray kp) :: (cl, listOf ((List.range 8).map fun i => Value.int (f i) (tf i)).toArray kc) :: (L + 4, o4) :: (rest ++ pls)) →
      (∀ p ∈ pls, pl < p.1 ∧ ∀ q ∈ rest, q.1 < p.1) →
      wpAny (model PG w) A (execs (lBody.drop 5) (lEnv L fa)) Q E { s with heap := h', toks := tk }) : wpAny (model PG w) A (execs (lBody.drop 4) (lEnv L fa)) Q E s := by
  have XK := G.k
  obtain ⟨me, TT⟩ := G.t
  have e1 := Eq.refl (lBody.drop 4)
  conv at e1 => rhs; whnf
  rw [e1]
  iterate 1 walk1
  refine wpAny_For ?_
  iterate 6 walk1
  (with_reducible rename Fr _ _ _ _ => F1)
  (with_reducible rename News _ _ _ _ => N1)
  refine range1_iter F1 N1 (by decide) (by decide) fun it h2 tk2 F2 N2 l2 => ?_
  have li0 : pl < it := l2 (pl, listOf ([] : List Value).toArray 0) (.head _)
  have li1 : cl < it := l2 (cl, listOf ((List.range 8).map fun i => Value.int (f i) (tf i)).toArray kc) (.tail _ (.head _))
  have li2 : L + 4 < it := l2 (L + 4, o4) (.tail _ (.tail _ (.head _)))
  refine loopRange (by exact hh) (x0 := 0) (c := 1) (n := 8) (JL cl pl it L dv f tf kc o4 rest) F2 N2 ⟨m1, m2, 0, [], trivial, (by intro p hp; cases hp), by rw [List.append_nil]; rfl⟩ ?_ ?_ ?_
  · rintro i m' news' ⟨_, _, kp, pls, _, hlt, rfl⟩ p hp
    rcases List.mem_cons.mp hp with rfl | hp
    · exact Nat.ne_of_lt li0
    rcases List.mem_cons.mp hp with rfl | hp
    · exact Nat.ne_of_lt li1
    rcases List.mem_cons.mp hp with rfl | hp
    · exact Nat.ne_of_lt li2
    rcases List.mem_append.mp hp with hp | hp
    · exact Nat.ne_of_lt (l2 p (.tail _ (.tail _ (.tail _ hp))))
    · exact Nat.ne_of_gt (hlt p hp)
  · rintro i t m' news' h' tk' Qt Et hT hE hlt ⟨m1, m2, kp, pls, hpa, hpl, rfl⟩ F' N'
    have hk : (0 : Int) + (i : Int) * 1 = (i : Int) := by walk_at "om"
    rw [hk] at F'
    have hcell : ((List.range 8).map (fun i => Value.int (f i) (tf i)))[i]? = some (.int (f i) (tf i)) := by
      rw [List.getElem?_map, List.getElem?_range hlt]; rfl
    have hbo := fmod_boss f i
    have hbl := bossOf_le f i
    have hpl8 := hpa.length
    rw [pths_len] at hpl8
    have plen : ∀ d ∈ pths (bossOf f) i, d.length ≤ i := fun d hd => pths_le hd
    iterate 8 walk1
    refine wpAny_mono (Q := fun v s' => ∃ ab us h5 tk5 ex, v = .ref ab ∧ s' = { s with heap := h5, toks := tk5 } ∧ Fr g L h5 (fun y => if y = "k" then some (Value.int (i : Int) t) else m' y) ∧
      News g L h5 (ex ++ (it, riObj (0 + (i + 1 : Nat) * 1) ((8 : Nat) - (i + 1 : Nat)) 1) :: (pl, listOf (pls.map fun p => Value.ref p.1).toArray kp) :: (cl, listOf ((List.range 8).map fun i => Value.int (f i) (tf i)).toArray kc) :: (L + 4, o4) :: (rest ++ pls)) ∧ (∃ n, (ab, listOf us.toArray n) ∈ ex ++ (it, riObj (0 + (i + 1 : Nat) * 1) ((8 : Nat) - (i + 1 : Nat)) 1) :: (pl, listOf (pls.map fun p => Value.ref p.1).toArray kp) :: (cl, listOf ((List.range 8).map fun i => Value.int (f i) (tf i)).toArray kc) :: (L + 4, o4) :: (rest ++ pls)) ∧ IntsAre us (if bossOf f i = i then [] else (pths (bossOf f) i).getD (bossOf f i) [])) ?_ (fun v s' hv => ?_) (fun _ _ x => x)
    · iterate 6 walk1
      (with_reducible rename News _ _ _ _ => N3)
      refine item_litK (vs := (List.range 8).map (fun i => Value.int (f i) (tf i))) ⟨_, N3.get (.tail _ (.tail _ (.head _))), rfl, _, rfl⟩ (Int.natCast_nonneg _) (lt63 hlt) (v := .int (f i) (tf i)) (by rw [Int.toNat_natCast]; exact hcell) ?_
      iterate 4 walk1
      refine mod_int (succ_ne i) ?_
      rw [hbo]
      iterate 2 walk1
      by_cases hbk : bossOf f i = i
      · rw [show (((bossOf f i : Nat) : Int) == (i : Int)) = true from by rw [hbk]; exact beq_self_eq_true _]
        iterate 4 walk1
        (with_reducible rename Fr _ _ _ _ => F4)
        (with_reducible rename News _ _ _ _ => N4)
        refine newList_vals [] F4 N4 (fun q h5 F5 N5 l5 => ?_) (by decide)
        rw [if_pos hbk]
        exact ⟨q, [], h5, _, [(q, listOf ([] : List Value).toArray 0)], rfl, rfl, F5, N5, ⟨0, .head _⟩, .nil⟩
      · rw [show (((bossOf f i : Nat) : Int) == (i : Int)) = false from beq_eq_false_iff_ne.mpr (by walk_at "om")]
        iterate 8 walk1
        (with_reducible rename News _ _ _ _ => N4)
        refine item_litK (vs := (List.range 8).map (fun i => Value.int (f i) (tf i))) ⟨_, N4.get (.tail _ (.tail _ (.head _))), rfl, _, rfl⟩ (Int.natCast_nonneg _) (lt63 hlt) (v := .int (f i) (tf i)) (by rw [Int.toNat_natCast]; exact hcell) ?_
        iterate 4 walk1
        refine mod_int (succ_ne i) ?_
        rw [hbo]
        (with_reducible rename Fr _ _ _ _ => F5)
        (with_reducible rename News _ _ _ _ => N5)
        refine hideP fun G9 hG9 => ?_
        obtain ⟨p, us, hp, hpo, hpi⟩ := hpa.at (bossOf f i) (by rw [pths_len]; walk_at "om")
        refine hG9 ?_
        clear hG9
        have hpm : p ∈ pls := List.mem_of_getElem? hp
        refine item_litK (vs := pls.map fun p => Value.ref p.1) ⟨_, N5.get (.tail _ (.head _)), rfl, _, rfl⟩ (Int.natCast_nonneg _) (lt63 (Nat.lt_of_le_of_lt hbl hlt)) (v := .ref p.1) (by rw [Int.toNat_natCast, List.getElem?_map, hp]; rfl) ?_
        rw [if_neg hbk]
        exact ⟨p.1, us, _, _, [], rfl, rfl, F5, N5, ⟨0, by rw [← hpo]; exact .tail _ (.tail _ (.tail _ (.tail _ (List.mem_append_right _ hpm))))⟩, hpi⟩
    · refine hideP fun G9 hG9 => ?_
      obtain ⟨ab, us, h5, tk5, ex, rfl, rfl, F5, N5, ⟨nab, hab⟩, hus⟩ := hv
      refine hG9 ?_
      clear hG9
      have hus8 : us.length ≤ 100 := by
        rw [hus.length]
        split
        · exact Nat.zero_le _
        · rw [List.getD_eq_getElem?_getD]
          cases e : (pths (bossOf f) i)[bossOf f i]? with
          | none => exact Nat.zero_le _
          | some x => exact Nat.le_trans (plen x (List.mem_of_getElem? e)) (by walk_at "om")
      iterate 6 walk1
      refine newList_vals [.int (-(i : Int)) tk5] F5 N5 (fun q h6 F6 N6 l6 => ?_) (by simp)
      refine kmk_add_lit (zs := us ++ [.int (-(i : Int)) tk5]) F6 N6 ⟨_, N6.get (.tail _ hab), rfl, _, rfl⟩ ⟨_, N6.get (.head _), rfl, _, rfl⟩ (by simp) (fun D h7 F7 N7 l7 => ?_) (by simp [sizeLine_eq]; walk_at "om")
      have mid : ∀ p ∈ (it, riObj (0 + (i + 1 : Nat) * 1) ((8 : Nat) - (i + 1 : Nat)) 1) :: (pl, listOf (pls.map fun p => Value.ref p.1).toArray kp) :: (cl, listOf ((List.range 8).map fun i => Value.int (f i) (tf i)).toArray kc) :: (L + 4, o4) :: (rest ++ pls), p ∈ (q, listOf [Value.int (-(i : Int)) tk5].toArray 0) :: (ex ++ (it, riObj (0 + (i + 1 : Nat) * 1) ((8 : Nat) - (i + 1 : Nat)) 1) :: (pl, listOf (pls.map fun p => Value.ref p.1).toArray kp) :: (cl, listOf ((List.range 8).map fun i => Value.int (f i) (tf i)).toArray kc) :: (L + 4, o4) :: (rest ++ pls)) := fun p hp => .tail _ (List.mem_append_right _ hp)
      have iD : it < D := l7 (it, riObj (0 + (i + 1 : Nat) * 1) ((8 : Nat) - (i + 1 : Nat)) 1) (mid _ (.head _))
      have N8 : News g L h7 ((it, riObj (0 + (i + 1 : Nat) * 1) ((8 : Nat) - (i + 1 : Nat)) 1) :: (pl, listOf (pls.map fun p => Value.ref p.1).toArray kp) :: (cl, listOf ((List.range 8).map fun i => Value.int (f i) (tf i)).toArray kc) :: (L + 4, o4) :: (rest ++ (pls ++ [(D, listOf (us ++ [Value.int (-(i : Int)) tk5]).toArray 0)]))) := fun p hp => by
        rw [← List.append_assoc] at hp
        rcases List.mem_cons.mp hp with rfl | hp
        · exact N7 _ (.tail _ (mid _ (.head _)))
        rcases List.mem_cons.mp hp with rfl | hp
        · exact N7 _ (.tail _ (mid _ (.tail _ (.head _))))
        rcases List.mem_cons.mp hp with rfl | hp
        · exact N7 _ (.tail _ (mid _ (.tail _ (.tail _ (.head _)))))
        rcases List.mem_cons.mp hp with rfl | hp
        · exact N7 _ (.tail _ (mid _ (.tail _ (.tail _ (.tail _ (.head _))))))
        rcases List.mem_append.mp hp with hp | hp
        · exact N7 _ (.tail _ (mid _ (.tail _ (.tail _ (.tail _ (.tail _ hp))))))
        · rw [List.mem_singleton.mp hp]
          exact N7 _ (.head _)
      clear N5 N6 N7 F5 F6
      iterate 1 walk1
      refine append_K F7 N8 (.tail (Nat.ne_of_gt li0) (.head fun p hp => ?_)) (fun h8 F8 N9 => ?_) (by simp [sizeLine_eq]; walk_at "om")
      · rcases List.mem_cons.mp hp with rfl | hp
        · exact n1
        rcases List.mem_cons.mp hp with rfl | hp
        · exact n2
        rcases List.mem_append.mp hp with hp | hp
        · exact n3 p hp
        rcases List.mem_append.mp hp with hp | hp
        · exact Nat.ne_of_gt (Nat.lt_trans li0 (hpl p hp))
        · rw [List.mem_singleton.mp hp]
          exact Nat.ne_of_gt (Nat.lt_trans li0 iD)
      iterate 2 walk1
      refine hT _ _ ⟨h8, _, _, _, rfl, F8, N9, (if_neg (by decide)).trans m1, (if_neg (by decide)).trans m2, kp + 1, pls ++ [(D, listOf (us ++ [Value.int (-(i : Int)) tk5]).toArray 0)], ?_, ?_, ?_⟩
      · rw [pths]
        exact hpa.snoc ⟨_, rfl, hus.append (.cons _ _ .nil)⟩
      · intro p hp
        rcases List.mem_append.mp hp with hp | hp
        · exact hpl p hp
        · rw [List.mem_singleton.mp hp]; exact iD
      · rw [List.push_toArray, List.map_append]
        rfl
  · rintro h9 tk9 m' news' ⟨m1, m2, kp, pls, hpa, hpl, rfl⟩ F9 N9
    refine hQ h9 tk9 m' kp pls hpa m1 m2 F9 N9 fun p hp => ⟨Nat.lt_trans li0 (hpl p hp), fun q hq => Nat.lt_trans (l2 q (.tail _ (.tail _ (.tail _ hq)))) (hpl p hp)⟩
end
end
theorem Again.at29 {M : Model} {A : Around} {env : Env} {Q : Flow → Shared → Prop} {E : Value → Shared → Prop} {s : Shared} (h : Q .next s) : wpAny M A (execs [] env) Q E s := by w_top off; walk1; exact h
section
set_option maxRecDepth 100000
noncomputable def pS0 : (Nat → List Nat) × List Nat := (fun j => ((nms[j]?).map (fun x => (pgOf x).cps.toList)).getD [], [])
theorem pS0_eq {gl : List (Str × Tok)} (h : gl.map (·.1) = nms) : pgS0 gl = pS0 := by
  unfold pgS0 pS0
  rw [← h]
  congr 1
  funext j
  rw [List.getElem?_map, Option.map_map]
  rfl
noncomputable def pageT (f : Nat → Int) : List Nat := quote ((pgSt f pS0 8).2 ++ pgTail)
section
variable {w : World} {mg mb : Str → Option Value} {g : Heap} {A : Around} {s : Shared} {E : Value → Shared → Prop} {Q : Flow → Shared → Prop}
set_option maxHeartbeats 4000000
theorem nms_ok : ∀ x ∈ nms, x.cps.all (· < 128) = true ∧ x.cps.size ≤ 10 := by decide +kernel
theorem law_s3 (G : Gnd w mg mb g) (hroom : A.depth < 500) (hh : A.handled = none) (C1 : CodeHd g 124 120) {L fa cl pl nl dl : Addr} {o3 o4 c1 c2 : Obj} {v1 : Option Value} {m : Str → Option Value} {f : Nat → Int} {tf : Nat → Tok} {kc kp kn kd : Nat} {gl nmt : List (Str × Tok)} {pls : List (Addr × Obj)}
   (F : Fr g L s.heap m) (N : News g L s.heap ((pl, listOf (pls.map fun p => Value.ref p.1).toArray kp) :: (cl, listOf ((List.range 8).map fun i => Value.int (f i) (tf i)).toArray kc) :: (L + 4, o4) :: (nl, listOf (strValues nmt).toArray kn) :: (dl, listOf (strValues gl).toArray kd) :: (L + 3, o3) :: (L + 2, c2) :: (L + 1, c1) :: (120, tabObj #[]) :: (156, tabObj #[]) :: pls))
   (hf : ∀ i, 0 ≤ f i) (hgl : gl.map (·.1) = nms) (d1 : c1.data = .cell v1) (m1 : m "cells" = some (.ref cl)) (m2 : m "given" = some (.ref dl))
   (hb : ∀ i ≤ 8, (∀ j < 8, ((pgSt f pS0 i).1 j).length ≤ 100000) ∧ (pgSt f pS0 i).2.length ≤ 100000) (hsz : (pageT f).length ≤ 800000) (hcr : ∀ y : Array Nat, y.toList = pageT f → (Builtin.Str.occurrences ⟨y⟩ (Str.ofString "\r\r") 0 (⟨y⟩ : Str).length 1).isEmpty = true)
   (n1 : @Ne Nat cl dl) (n2 : @Ne Nat pl (L + 1) ∧ @Ne Nat cl (L + 1) ∧ @Ne Nat nl (L + 1) ∧ @Ne Nat dl (L + 1) ∧ @Ne Nat 120 (L + 1) ∧ @Ne Nat 156 (L + 1)) (n3 : ∀ p ∈ pls, p.1 ≠ L + 1) (n4 : ∀ p ∈ (pl, listOf (pls.map fun p => Value.ref p.1).toArray kp) :: (cl, listOf ((List.range 8).map fun i => Value.int (f i) (tf i)).toArray kc) :: (L + 4, o4) :: (nl, listOf (strValues nmt).toArray kn) :: (dl, listOf (strValues gl).toArray kd) :: (L + 3, o3) :: (L + 2, c2) :: (L + 1, c1) :: (156, tabObj #[]) :: pls, p.1 ≠ 120)
   (hQ : ∀ h' tk X l signs o1 ps, IsLex w.params X 1 [] signs l → signs.map (·.1) = pageT f → o1.data = .cell (some (.ref X.lx)) → Fr g L h' m →
      News g L h' ((L + 1, o1) :: (L + 2, c2) :: (156, tabObj #[]) :: (l ++ ((pl, listOf (pls.map fun p => Value.ref p.1).toArray kp) :: (cl, listOf ((List.range 8).map fun i => Value.int (f i) (tf i)).toArray kc) :: (L + 4, o4) :: (L + 3, o3) :: (nl, listOf (strValues nmt).toArray kn) :: (120, tabObj ps) :: pls))) →
      (∀ p ∈ (L + 1, o1) :: (L + 2, c2) :: (156, tabObj #[]) :: (pl, listOf (pls.map fun p => Value.ref p.1).toArray kp) :: (cl, listOf ((List.range 8).map fun i => Value.int (f i) (tf i)).toArray kc) :: (L + 4, o4) :: (L + 3, o3) :: (nl, listOf (strValues nmt).toArray kn) :: (120, tabObj ps) :: pls, p.1 ∉ l.map (·.1)) →
      wpAny (model PG w) A (execs (lBody.drop 6) (lEnv L fa)) Q E { s with heap := h', toks := tk }) : wpAny (model PG w) A (execs (lBody.drop 5) (lEnv L fa)) Q E s := by
  have XK := G.k
  obtain ⟨me, TT⟩ := G.t
  have e1 := Eq.refl (lBody.drop 5)
  conv at e1 => rhs; whnf
  rw [e1]
  iterate 14 walk1
  refine ⟨XK.keeps F.keep, ?_⟩
  have hgl8 : gl.length = 8 := by have := congrArg List.length hgl; rw [List.length_map] at this; rw [this]; rfl
  refine wpAny_call (page_spec G (by exact F.keep) (by walk_at "om") hh (c := cl) (nl := dl) (f := f) (tf := tf) (nm := gl) (k := kc) (kn := kd) (Mine.News.led (L := L) (List.forall_mem_cons.mpr ⟨N _ (.tail _ (.head _)), List.forall_mem_cons.mpr ⟨N _ (.tail _ (.tail _ (.tail _ (.tail _ (.head _))))), List.forall_mem_nil _⟩⟩)) (fun p hp => nms_ok p.1 (by rw [← hgl]; exact List.mem_map_of_mem hp)) hgl8 n1 hf (by rw [pS0_eq hgl]; exact hb) fun h2 tk2 t2 y kb2 hy => ?_)
  rw [pS0_eq hgl] at hy
  have hy : y.toList = pageT f := hy
  have F2 := F.kept (Keep.all kb2)
  have N2 := N.grown (Keep.all kb2)
  clear F N
  dsimp only
  iterate 1 walk1
  refine ⟨XK.keeps F2.keep, ?_⟩
  refine wpAny_call (reader_spec G (by exact F2.keep) C1 (Mine.News.led (L := L) (List.forall_mem_cons.mpr ⟨N2 _ (.tail _ (.tail _ (.tail _ (.tail _ (.tail _ (.tail _ (.tail _ (.tail _ (.head _))))))))), List.forall_mem_nil _⟩)) (by walk_at "om") hh (by show y.size ≤ _; rw [← Array.length_toList, hy]; exact hsz) (hcr y hy) fun h3 tk3 X l signs hl hld kb3 hps hsg => ?_)
  obtain ⟨ps, hps⟩ := hps
  rw [hy] at hsg
  dsimp only
  have h120 : g.get? 120 = none := (N2 _ (.tail _ (.tail _ (.tail _ (.tail _ (.tail _ (.tail _ (.tail _ (.tail _ (.head _)))))))))).2.2
  have F3 := Fr.after F2 kb3 (fun q => (N2 _ (.tail _ (.tail _ (.tail _ (.tail _ (.tail _ (.tail _ (.tail _ (.tail _ (.head _)))))))))).2.1 (List.mem_singleton.mp q).symm) (fun a ha => by rw [List.mem_singleton.mp ha]; exact h120)
  have old3 : ∀ p ∈ (pl, listOf (pls.map fun p => Value.ref p.1).toArray kp) :: (cl, listOf ((List.range 8).map fun i => Value.int (f i) (tf i)).toArray kc) :: (L + 4, o4) :: (nl, listOf (strValues nmt).toArray kn) :: (dl, listOf (strValues gl).toArray kd) :: (L + 3, o3) :: (L + 2, c2) :: (L + 1, c1) :: (156, tabObj #[]) :: pls, h3.get? p.1 = some p.2 ∧ p.1 ≠ L ∧ g.get? p.1 = none := fun p hp => by
    exact ⟨kb3 _ _ (fun q => n4 p hp (List.mem_singleton.mp q)) (pickP N2 [0, 1, 2, 3, 4, 5, 6, 7, 9] (dropP N2 10) p hp).1, (pickP N2 [0, 1, 2, 3, 4, 5, 6, 7, 9] (dropP N2 10) p hp).2⟩
  have lnew : ∀ p ∈ l, ∀ b o, h2.get? b = some o → b ≠ p.1 := fun p hp b o e q => by rw [q, (hld p hp).2] at e; cases e
  refine hideP fun G9 hG9 => ?_
  obtain ⟨oLf, _, _, eLf, _⟩ := F2.ns
  refine hG9 ?_
  clear hG9
  have N3 : News g L h3 ((L + 1, c1) :: (L + 2, c2) :: (156, tabObj #[]) :: (l ++ ((pl, listOf (pls.map fun p => Value.ref p.1).toArray kp) :: (cl, listOf ((List.range 8).map fun i => Value.int (f i) (tf i)).toArray kc) :: (L + 4, o4) :: (L + 3, o3) :: (nl, listOf (strValues nmt).toArray kn) :: (120, tabObj ps) :: pls))) := by
    refine consP (old3 _ (atM 7 rfl)) (consP (old3 _ (atM 6 rfl)) (consP (old3 _ (atM 8 rfl)) (appP (fun p hp => ?_) (consP (old3 _ (.head _)) (consP (old3 _ (atM 1 rfl)) (consP (old3 _ (atM 2 rfl)) (consP (old3 _ (atM 5 rfl)) (consP (old3 _ (atM 3 rfl)) (consP ⟨hps, (N2 _ (atM 8 rfl)).2⟩ (dropP old3 9))))))))))
    refine ⟨(hld p hp).1, lnew p hp _ _ eLf ∘ Eq.symm, ?_⟩
    cases z : g.get? p.1 with
    | none => rfl
    | some o => exact absurd rfl (lnew p hp _ _ (F2.keep _ _ z))
  have sepl : ∀ b o, h2.get? b = some o → b ∉ l.map (·.1) := fun b o e q => by
    obtain ⟨p, hp, e1⟩ := List.mem_map.mp q
    exact lnew p hp b o e e1.symm
  refine hideP fun G9 hG9 => ?_
  obtain ⟨z1, z2, z3, z4, z5, z6⟩ := n2
  refine hG9 ?_
  clear hG9
  refine storeX_C F3 N3 rfl (.head (consP (P := fun p => p.1 ≠ L + 1) (Nat.ne_of_gt (Nat.lt_succ_self (L + 1))) (consP z6 (appP (fun p hp => (lnew p hp _ _ (N2 (L + 1, c1) (atM 7 rfl)).1).symm) (consP z1 (consP z2 (consP (Nat.ne_of_gt (Nat.lt_succ_of_lt (Nat.lt_succ_of_lt (Nat.lt_succ_self (L + 1))))) (consP (Nat.ne_of_gt (Nat.lt_succ_of_lt (Nat.lt_succ_self (L + 1)))) (consP z3 (consP z5 n3)))))))))) d1 (fun h4 o1 F4 N4 d1' => ?_) rfl rfl
  have z120 : ((120, tabObj ps) : Addr × Obj).1 ∉ l.map (·.1) := sepl 120 _ (N2 _ (atM 8 rfl)).1
  have zL1 : ((L + 1, o1) : Addr × Obj).1 ∉ l.map (·.1) := sepl (L + 1) _ (N2 _ (atM 7 rfl)).1
  have zpls : ∀ p ∈ pls, p.1 ∉ l.map (·.1) := fun p hp => sepl _ _ (dropP N2 10 p hp).1
  exact hQ h4 _ X l signs o1 ps hl hsg d1' F4 N4 (consP (P := fun p => p.1 ∉ l.map (·.1)) zL1 (consP (sepl _ _ (N2 _ (atM 6 rfl)).1) (consP (sepl _ _ (N2 _ (atM 9 rfl)).1) (consP (sepl _ _ (N2 _ (.head _)).1) (consP (sepl _ _ (N2 _ (atM 1 rfl)).1) (consP (sepl _ _ (N2 _ (atM 2 rfl)).1) (consP (sepl _ _ (N2 _ (atM 5 rfl)).1) (consP (sepl _ _ (N2 _ (atM 3 rfl)).1) (consP z120 zpls)))))))))
end
end
theorem Again.at30 {M : Model} {A : Around} {env : Env} {Q : Flow → Shared → Prop} {E : Value → Shared → Prop} {s : Shared} (h : Q .next s) : wpAny M A (execs [] env) Q E s := by w_top off; walk1; exact h
section
set_option maxRecDepth 100000
noncomputable def kwV (s : Expr) : Expr := (exP s).2.2.2
noncomputable def forI (s : Stmt) : Expr := (stP s).2.2.2.1
noncomputable def lmP (s : Expr) : Arguments := (exP s).1
noncomputable def lmB (s : Expr) : Expr := (exP s).2.1
noncomputable def lmS (s : Expr) : Scope := (exP s).2.2.1
noncomputable def lam7 : Expr := kwV (forI (lBody.getD 7 (.Pass default)))
noncomputable abbrev lam7Obj (pm : Value) (c co : Addr) (ctv : Value) : Obj := kla_obj "<lambda>" "law.<locals>.<lambda>" (lmP lam7) (lmB lam7) (lmS lam7) [("paths", c)] pm co ctv
section
variable {w : World} {mg mb : Str → Option Value} {h₀ : Heap} {A : Around} {R : Result → Shared → Prop} {s : Shared}
set_option maxHeartbeats 2000000
theorem lam7_spec (G : Gnd w mg mb h₀) (st : h₀.StaysIn s.heap) (hroom : A.depth < 900) {fn co c pl : Addr} {pm ctv v : Value} {o4 : Obj} {t : Tok} {k j : Nat} {items : List Value}
    (ho : s.heap.get? fn = some (lam7Obj pm c co ctv)) (hcd : s.heap.CodeRec (.ref co) "law.<locals>.<lambda>") (hc : o4.data = .cell (some (.ref pl)))
    (hn : Led h₀ s.heap [(c, o4), (pl, listOf items.toArray k)]) (hj : items[j]? = some v) (hz : items.length ≤ 1000)
    (h : ∀ h' tk, Keep [] s.heap h' → R (.ok (.ret v)) { s with heap := h', toks := tk }) :
    codeAny (model PG w) A (.call (.ref fn) ⟨[.int (j : Nat) t], []⟩) R s := by
  refine enterL G st ho hcd (by show A.depth < 1000; walk_at "om") (binds := [("job", .int (j : Nat) t)]) rfl (by exact locs rfl) _ hn ?_ rfl rfl rfl (by decide)
  intro g L' h₁ tk I F N G'
  have X := G'.k
  obtain ⟨me, T⟩ := G'.t
  conv in (eval (lmB lam7) _) => arg 1; whnf
  have es := Eq.refl (lmS lam7)
  conv at es => rhs; whnf
  rw [es]
  have hlt : j < items.length := (List.getElem?_eq_some_iff.mp hj).1
  iterate 1 walk1
  refine nameX_F N rfl (List.Mem.head _) hc ?_
  iterate 1 walk1
  refine item_litK ⟨_, (N _ (.tail _ (.head _))).1, rfl, _, rfl⟩ (by walk_at "om") (by simp; walk_at "om") (by rw [Int.toNat_natCast]; exact hj) ?_
  exact h _ _ (I.keepAll hn F (fun p hp => (N p hp).1))
end
end
theorem Again.at31 {M : Model} {A : Around} {env : Env} {Q : Flow → Shared → Prop} {E : Value → Shared → Prop} {s : Shared} (h : Q .next s) : wpAny M A (execs [] env) Q E s := by w_top off; walk1; exact h
section
set_option maxRecDepth 100000
structure Apart (A LA PA : List Addr) : Prop where
  nd : A.Pairwise (· ≠ ·)
  al : ∀ a ∈ A, a ∉ LA
  ap : ∀ a ∈ A, a ∉ PA
  pl : ∀ a ∈ PA, a ∉ LA
theorem Apart.upd {A LA PA : List Addr} {a : Addr} {o o' : Obj} {l pls : List (Addr × Obj)} (H : Apart A LA PA) (hl : l.map (·.1) = LA) (hp : pls.map (·.1) = PA) :
    ∀ {pre post : List (Addr × Obj)}, (∃ A1 A2, A = A1 ++ A2 ∧ A2 = (pre ++ (a, o) :: post).map (·.1)) → Upd a o o' (pre ++ (a, o) :: (post ++ (l ++ pls))) (pre ++ (a, o') :: (post ++ (l ++ pls)))
  | [], post, ⟨A1, A2, e1, e2⟩ => .head fun p hp' => by
    subst e1 e2
    have hn := (List.pairwise_append.mp H.nd).2.1
    simp only [List.nil_append, List.map_cons, List.pairwise_cons] at hn
    have ha : a ∈ A1 ++ (([] : List (Addr × Obj)) ++ (a, o) :: post).map (·.1) := by simp
    rcases List.mem_append.mp hp' with q | q
    · exact fun e => hn.1 p.1 (List.mem_map_of_mem q) e.symm
    · rcases List.mem_append.mp q with q | q
      · exact fun e => H.al a ha (by rw [← hl, ← e]; exact List.mem_map_of_mem q)
      · exact fun e => H.ap a ha (by rw [← hp, ← e]; exact List.mem_map_of_mem q)
  | x :: pre, post, ⟨A1, A2, e1, e2⟩ => .tail (fun e => by
      subst e1 e2
      have hn := (List.pairwise_append.mp H.nd).2.1
      simp only [List.cons_append, List.map_cons, List.pairwise_cons] at hn
      exact hn.1 a (by simp) e) (Apart.upd H hl hp ⟨A1 ++ [x.1], (pre ++ (a, o) :: post).map (·.1), by rw [e1, e2]; simp, rfl⟩)
theorem Apart.pre {A LA PA : List Addr} (H : Apart A LA PA) {pre : List (Addr × Obj)} (h : pre.map (·.1) = A) : ∀ p ∈ pre, p.1 ∉ LA := fun p hp => H.al _ (h ▸ List.mem_map_of_mem hp)
theorem Apart.suf {A LA PA : List Addr} (H : Apart A LA PA) {pls : List (Addr × Obj)} (h : pls.map (·.1) = PA) : ∀ p ∈ pls, p.1 ∉ LA := fun p hp => H.pl _ (h ▸ List.mem_map_of_mem hp)
theorem Apart.push {A LA PA : List Addr} (H : Apart A LA PA) {pre l pls : List (Addr × Obj)} {q : Addr} (h1 : pre.map (·.1) = A) (h2 : l.map (·.1) = LA) (h3 : pls.map (·.1) = PA) (h : ∀ p ∈ pre ++ (l ++ pls), p.1 < q) : Apart (q :: A) LA PA := by
  have ha : ∀ a ∈ A, a ≠ q := fun a ha => by
    rw [← h1] at ha
    obtain ⟨p, hp, e⟩ := List.mem_map.mp ha
    have := h p (List.mem_append_left _ hp)
    rw [e] at this
    exact Nat.ne_of_lt this
  have hl : q ∉ LA := fun hq => by
    rw [← h2] at hq
    obtain ⟨p, hp, e⟩ := List.mem_map.mp hq
    have := h p (List.mem_append_right _ (List.mem_append_left _ hp))
    rw [e] at this
    exact Nat.lt_irrefl _ this
  have hpq : q ∉ PA := fun hq => by
    rw [← h3] at hq
    obtain ⟨p, hp, e⟩ := List.mem_map.mp hq
    have := h p (List.mem_append_right _ (List.mem_append_right _ hp))
    rw [e] at this
    exact Nat.lt_irrefl _ this
  refine ⟨List.pairwise_cons.mpr ⟨fun a h => (ha a h).symm, H.nd⟩, fun a h => ?_, fun a h => ?_, H.pl⟩
  · rcases List.mem_cons.mp h with rfl | h
    · exact hl
    · exact H.al a h
  · rcases List.mem_cons.mp h with rfl | h
    · exact hpq
    · exact H.ap a h
theorem Apart.sub {A B LA PA : List Addr} (H : Apart A LA PA) (h : B.Sublist A) : Apart B LA PA :=
  ⟨H.nd.sublist h, fun a ha => H.al a (h.subset ha), fun a ha => H.ap a (h.subset ha), H.pl⟩
theorem item_last {prog : Program} {w : World} {A : Around} {E : Value → Shared → Prop} {s : Shared} {value slice : PySem.Expr} {l : Addr} {ys : List Value} {y : Value} {u : Tok} {Q : Value → Shared → Prop} (hl : s.heap.IsList l (ys ++ [y]).toArray) (h : Q y s)
    (hs : subscripted slice false (.ref l) (.int (-1) u) = operate [.ref l, .int (-1) u] (getItem (.ref l) (.int (-1) u)) := by with_unfolding_all rfl) :
    wpAny (model prog w) A (subscriptTail value slice (.ref l) (.int (-1) u)) Q E s :=
  tail_any hl.typeIs slot_list_getitem.lookup (wpAny_getItem_list_neg hl (by decide) (by simp; walk_at "om") (by decide) (by
    have e : ((-1 : Int) + ((ys ++ [y]).toArray.size : Nat)).toNat = ys.length := by simp; walk_at "om"
    rw [e]; simp) h) hs
theorem fold_dot : ∀ (n : Nat) (acc : Array Nat), ((List.replicate n (#[46] : Array Nat)).foldl (· ++ ·) acc).toList = acc.toList ++ List.replicate n 46
  | 0, acc => by simp
  | n + 1, acc => by
    rw [List.replicate_succ, List.foldl_cons, fold_dot n, Array.toList_append, List.replicate_succ, List.append_assoc]
    rfl
theorem mul_dot (n : Nat) : (Txt.mul (Str.ofString ".") ((n : Int) + 1)).cps.toList = List.replicate (n + 1) 46 := by
  unfold Txt.mul
  rw [if_neg (by walk_at "om")]
  by_cases h : n = 0
  · subst h; rfl
  · have e : ((((n : Int) + 1) == 1 || (Str.ofString ".").length == 0)) = false := by
      rw [Bool.or_eq_false_iff]
      exact ⟨by rw [beq_eq_false_iff_ne]; walk_at "om", rfl⟩
    rw [if_neg (by rw [e]; decide)]
    show (List.foldl (· ++ ·) #[] (List.replicate ((n : Int) + 1).toNat (#[46] : Array Nat))).toList = _
    rw [fold_dot, show ((n : Int) + 1).toNat = n + 1 by walk_at "om"]
    rfl
theorem cps_append (x y : Str) : (x ++ y).cps.toList = x.cps.toList ++ y.cps.toList := by
  rw [show (x ++ y).cps = x.cps ++ y.cps from rfl, Array.toList_append]
theorem Apart.behind {A LA PA : List Addr} (H : Apart A LA PA) {D : Addr} (h1 : ∀ a ∈ A, a ≠ D) (h2 : D ∉ LA) : Apart A LA (D :: PA) :=
  ⟨H.nd, H.al, fun a ha q => (List.mem_cons.mp q).elim (h1 a ha) (H.ap a ha), fun a ha => (List.mem_cons.mp ha).elim (fun e => e ▸ h2) (H.pl a)⟩
noncomputable def fst7 : Stmt := lBody.getD 7 (.Pass default)
section
variable {w : World} {mg mb : Str → Option Value} {g : Heap} {A : Around} {s : Shared} {E : Value → Shared → Prop} {Q : Flow → Shared → Prop}
set_option maxHeartbeats 4000000
theorem s7_turn (G : Gnd w mg mb g) (hroom : A.depth < 600) (hh : A.handled = none) {L fa it wl pl nl cl : Addr} {oi o1 o3 o4 c2 CL t156 t120 : Obj} {X : LX} {ln : Int} {m : Str → Option Value} {ws nmt : List (Str × Tok)} {kw kn kp : Nat} {l pls rest : List (Addr × Obj)} {signs : List (Nat × Tok)} {LA PA : List Addr} {j : Nat} {tj tn : Tok} {nm : Str} {ds : List (List Int)}
   (F : Fr g L s.heap m) (N : News g L s.heap ((it, oi) :: (wl, listOf (strValues ws).toArray kw) :: (L + 1, o1) :: (L + 4, o4) :: (L + 3, o3) :: (pl, listOf (pls.map fun p => Value.ref p.1).toArray kp) :: (nl, listOf (strValues nmt).toArray kn) :: (cl, CL) :: (L + 2, c2) :: (120, t120) :: (156, t156) :: (l ++ rest)))
   (H : Apart [it, wl, L + 1, L + 4, L + 3, pl, nl, cl, L + 2, 120, 156] LA PA) (hLA : l.map (·.1) = LA) (hPA : rest.map (·.1) = PA) (hsub : ∀ p ∈ pls, p ∈ rest)
   (d1 : o1.data = .cell (some (.ref X.lx))) (d4 : o4.data = .cell (some (.ref pl))) (d3 : o3.data = .cell (some (.ref nl)))
   (hl : IsLex w.params X ln [] signs l) (hz : signs.length ≤ 900000) (hws : ws.length ≤ 8)
   (hps : PathsAre pls ds) (hj : j < ds.length) (hj8 : ds.length ≤ 8) (hjn : nmt[j]? = some (nm, tn)) (hdl : (ds.getD j []).length ≤ 8) (hnz : nm.cps.size ≤ 100)
   (m1 : m "words" = some (.ref wl)) (m2 : m "k" = some (.int (j : Nat) tj))
   (e1 : (word signs).1 = List.replicate ((ds.getD j []).length + 1) 46 ++ nm.cps.toList) (e2 : ln + feeds signs = ((ws.length + 1 : Nat) : Int) + feeds (word signs).2)
   (hQ : ∀ h' tk l' kw' t, IsLex w.params X ((ws.length + 1 : Nat) : Int) [] (word signs).2 l' → l'.map (·.1) = LA → Fr g L h' m → News g L h' ((it, oi) :: (wl, listOf (strValues (ws ++ [(⟨(word signs).1.toArray⟩, t)])).toArray kw') :: (L + 1, o1) :: (L + 4, o4) :: (L + 3, o3) :: (pl, listOf (pls.map fun p => Value.ref p.1).toArray kp) :: (nl, listOf (strValues nmt).toArray kn) :: (cl, CL) :: (L + 2, c2) :: (120, t120) :: (156, t156) :: (l' ++ rest)) →
      Q .next { s with heap := h', toks := tk }) :
   wpAny (model PG w) A (execs (forB fst7) (lEnv L fa)) Q E s := by
  have XK := G.k
  obtain ⟨me, TT⟩ := G.t
  have hLL : L ∉ LA := fun q => by
    rw [← hLA] at q
    obtain ⟨p, hp, e⟩ := List.mem_map.mp q
    exact (leftP (dropP N 11) p hp).2.1 e
  have e0 := Eq.refl (forB fst7)
  conv at e0 => rhs; whnf
  rw [e0]
  clear e0
  have hlo := hl
  refine hideP fun G9 hG9 => ?_
  obtain ⟨hnd, T, t1, U, pm, ctv, cob, oc2, vs2, tq, k1, k2, rfl, hc2, hoc2, hq2⟩ := hl
  refine hG9 ?_
  clear hG9
  simp only [List.cons_append, List.nil_append] at N
  iterate 11 walk1
  (with_reducible rename Fr _ _ _ _ => F5)
  (with_reducible rename News _ _ _ _ => N5)
  refine wpAny_call (gettok G (by exact F5.keep) (by walk_at "om") (by exact hh) hlo (lex_led (pre := [_, _, _, _, _, _, _, _, _, _, _]) (rest := rest) N5) hz fun h6 tk6 t6 n6 B6 en6 => ?_)
  refine hideP fun G9 hG9 => ?_
  obtain ⟨l6, hl6, hm6, F6, N6⟩ := lex_back (pre := [_, _, _, _, _, _, _, _, _, _, _]) (rest := rest) hLA hLL F5 N5 (H.pre rfl) (H.suf hPA) B6
  refine hG9 ?_
  clear hG9
  clear N5 F5 B6
  dsimp only [List.cons_append, List.nil_append] at N6
  dsimp only
  iterate 1 walk1
  refine append_K (its := (strValues ws).toArray) F6 N6 (H.upd (pre := [_]) (post := [_, _, _, _, _, _, _, _, _]) hm6 hPA ?hx) ?hy (by simp [strValues, sizeLine_eq]; walk_at "om")
  case hx => exact ⟨[], _, rfl, rfl⟩
  intro h7 F7 N7
  rw [push_str] at N7
  dsimp only [List.cons_append, List.nil_append] at N7
  have en : n6 = ((ws.length + 1 : Nat) : Int) := by walk_at "om"
  subst en
  have hlo6 := hl6
  refine hideP fun G9 hG9 => ?_
  obtain ⟨hnd6, T6, t16, U6, pm6, ctv6, cob6, oc6, vs6, tq6, k16, k26, rfl, hc6, hoc6, hq6⟩ := hl6
  refine hG9 ?_
  clear hG9
  dsimp only [List.cons_append, List.nil_append] at N7
  iterate 9 walk1
  (with_reducible rename Fr _ _ _ _ => F8)
  (with_reducible rename News _ _ _ _ => N8)
  have ewl : strValues (ws ++ [((⟨(word signs).1.toArray⟩ : Str), t6)]) = strValues ws ++ [Value.str ⟨(word signs).1.toArray⟩ t6] := by simp [strValues]
  refine item_last (ys := strValues ws) (y := .str ⟨(word signs).1.toArray⟩ t6) ⟨_, N8.get (.tail _ (.head _)), rfl, _, by rw [← ewl]⟩ ?_
  iterate 11 walk1
  refine hideP fun G9 hG9 => ?_
  obtain ⟨p, vs, ep, eo, hvs⟩ := hps.at j hj
  refine hG9 ?_
  clear hG9
  have lps := hps.length
  have lvs : vs.length = (ds.getD j []).length := hvs.length
  (with_reducible rename Fr _ _ _ _ => F9)
  (with_reducible rename News _ _ _ _ => N9)
  refine item_litK (v := .ref p.1) ⟨_, N9.get (by k_mem), rfl, _, rfl⟩ (by walk_at "om") (by walk_at "om") (by rw [Int.toNat_natCast, List.getElem?_map, ep]; rfl) ?_
  iterate 1 walk1
  have hpm : p ∈ pls := List.mem_of_getElem? ep
  refine call_len_list (items := vs.toArray) ⟨_, (N9 p (by simp [hsub p hpm])).1, by rw [eo], _, by rw [eo]⟩ (by simp; walk_at "om") ?_
  iterate 6 walk1
  (with_reducible rename Fr _ _ _ _ => F10)
  (with_reducible rename News _ _ _ _ => N10)
  have hjl : j < nmt.length := (List.getElem?_eq_some_iff.mp hjn).1
  refine item_litK (v := .str nm tn) ⟨_, N10.get (by k_mem), rfl, _, rfl⟩ (by walk_at "om") (by walk_at "om") (by rw [Int.toNat_natCast]; simp [strValues, hjn]) ?_
  refine SB.add (hsz := ?hsz) ?_
  case hsz =>
    have e := congrArg List.length (mul_dot vs.toArray.size)
    rw [Array.length_toList, List.length_replicate] at e
    show (Txt.mul (Str.ofString ".") ((vs.toArray.size : Nat) + 1)).cps.size + nm.cps.size ≤ sizeLine
    rw [e, List.size_toArray, lvs, sizeLine_eq]
    walk_at "om"
  intro _ _
  iterate 2 walk1
  have ecmp : (⟨(word signs).1.toArray⟩ : Str) = Txt.mul ("." : Str) ((vs.toArray.size : Int) + 1) ++ nm := by
    refine Str.ext' (Array.toList_inj.mp ?_)
    rw [cps_append, mul_dot, List.toList_toArray, e1, List.size_toArray, lvs]
  rw [if_neg (by rw [ecmp, bne_self_eq_false]; decide)]
  iterate 11 walk1
  (with_reducible rename Fr _ _ _ _ => F11)
  (with_reducible rename News _ _ _ _ => N11)
  refine call_len_list (items := (strValues (ws ++ [((⟨(word signs).1.toArray⟩ : Str), t6)])).toArray) ⟨_, N11.get (.tail _ (.head _)), rfl, _, rfl⟩ (by simp [strValues]; walk_at "om") ?_
  iterate 2 walk1
  have ez : ((strValues (ws ++ [((⟨(word signs).1.toArray⟩ : Str), t6)])).toArray.size : Int) = ((ws.length + 1 : Nat) : Int) := by simp [strValues]
  rw [ez, if_neg (by simp)]
  iterate 1 walk1
  rw [if_neg (by decide)]
  iterate 2 walk1
  dsimp only
  iterate 1 walk1
  (with_reducible rename Fr _ _ _ _ => F12)
  (with_reducible rename News _ _ _ _ => N12)
  exact hQ _ _ _ _ _ hlo6 hm6 F12 N12
end
end
section
set_option maxRecDepth 100000
theorem lexI_irr : ∀ a : List Int, lexI a a = false
  | [] => rfl
  | x :: a => by rw [lexI, if_pos rfl]; exact lexI_irr a
theorem lexI_trans : ∀ {a b c : List Int}, lexI a b = true → lexI b c = true → lexI a c = true
  | [], [], c, h, _ => by cases h
  | [], _ :: _, [], _, h => by cases h
  | [], _ :: _, _ :: _, _, _ => rfl
  | _ :: _, [], _, h, _ => by cases h
  | _ :: _, _ :: _, [], _, h => by cases h
  | x :: a, y :: b, z :: c, h1, h2 => by
    rw [lexI] at h1 h2 ⊢
    by_cases e1 : x = y
    · rw [if_pos e1] at h1
      by_cases e2 : y = z
      · rw [if_pos e2] at h2
        rw [if_pos (e1.trans e2)]
        exact lexI_trans h1 h2
      · rw [if_neg e2] at h2
        rw [if_neg (by rw [e1]; exact e2), e1]; exact h2
    · rw [if_neg e1] at h1
      by_cases e2 : y = z
      · rw [if_neg (by rw [← e2]; exact e1), ← e2]; exact h1
      · rw [if_neg e2] at h2
        have a1 := of_decide_eq_true h1
        have a2 := of_decide_eq_true h2
        rw [if_neg (by (first | lia | omega))]
        exact decide_eq_true (by (first | lia | omega))
theorem lexI_total : ∀ {a b : List Int}, a ≠ b → lexI a b = false → lexI b a = true
  | [], [], h, _ => absurd rfl h
  | [], _ :: _, _, h => by cases h
  | _ :: _, [], _, _ => rfl
  | x :: a, y :: b, h, h1 => by
    rw [lexI] at h1 ⊢
    by_cases e : x = y
    · rw [if_pos e] at h1
      rw [if_pos e.symm]
      exact lexI_total (fun q => h (by rw [e, q])) h1
    · rw [if_neg e] at h1
      have a1 := of_decide_eq_false h1
      rw [if_neg (fun q => e q.symm)]
      exact decide_eq_true (by (first | lia | omega))
theorem pths_getD (b : Nat → Nat) : ∀ {k j : Nat}, j < k → ∃ p, (pths b k).getD j [] = p ++ [-(j : Int)]
  | 0, j, h => absurd h (Nat.not_lt_zero _)
  | k + 1, j, h => by
    rw [pths, List.getD_eq_getElem?_getD]
    by_cases e : j < k
    · rw [List.getElem?_append_left (by rw [pths_len]; exact e), ← List.getD_eq_getElem?_getD]
      exact pths_getD b e
    · have e : j = k := by (first | lia | omega)
      subst e
      rw [List.getElem?_append_right (by rw [pths_len]; exact Nat.le_refl _), pths_len, Nat.sub_self]
      exact ⟨_, rfl⟩
theorem pths_ne {b : Nat → Nat} {k i j : Nat} (hi : i < k) (hj : j < k) (h : i ≠ j) : (pths b k).getD i [] ≠ (pths b k).getD j [] := by
  obtain ⟨p, e1⟩ := pths_getD b hi
  obtain ⟨q, e2⟩ := pths_getD b hj
  rw [e1, e2]
  intro e
  have := congrArg List.getLast? e
  simp at this
  (first | lia | omega)
noncomputable def pathLt (b : Nat → Nat) (i j : Nat) : Bool := lexI ((pths b 8).getD i []) ((pths b 8).getD j [])
theorem pathLt_ok (b : Nat → Nat) : LtOk (pathLt b) 8 where
  irr i _ := lexI_irr _
  trans _ _ _ _ _ _ h1 h2 := lexI_trans h1 h2
  total i j hi hj h e := lexI_total (pths_ne hi hj h) e
theorem Apart.updF {A LA PA : List Addr} {a : Addr} {o : Obj} {l pls : List (Addr × Obj)} (H : Apart A LA PA) (hl : l.map (·.1) = LA) (hp : pls.map (·.1) = PA) :
    ∀ {pre post : List (Addr × Obj)}, (∃ A1 A2, A = A1 ++ A2 ∧ A2 = (pre ++ (a, o) :: post).map (·.1)) → UpdF a o (pre ++ (a, o) :: (post ++ (l ++ pls))) (fun o' => pre ++ (a, o') :: (post ++ (l ++ pls)))
  | [], post, ⟨A1, A2, e1, e2⟩ => .head fun p hp' => by
    subst e1 e2
    have hn := (List.pairwise_append.mp H.nd).2.1
    simp only [List.nil_append, List.map_cons, List.pairwise_cons] at hn
    have ha : a ∈ A1 ++ (([] : List (Addr × Obj)) ++ (a, o) :: post).map (·.1) := by simp
    rcases List.mem_append.mp hp' with q | q
    · exact fun e => hn.1 p.1 (List.mem_map_of_mem q) e.symm
    · rcases List.mem_append.mp q with q | q
      · exact fun e => H.al a ha (by rw [← hl, ← e]; exact List.mem_map_of_mem q)
      · exact fun e => H.ap a ha (by rw [← hp, ← e]; exact List.mem_map_of_mem q)
  | x :: pre, post, ⟨A1, A2, e1, e2⟩ => .tail (fun e => by
      subst e1 e2
      have hn := (List.pairwise_append.mp H.nd).2.1
      simp only [List.cons_append, List.map_cons, List.pairwise_cons] at hn
      exact hn.1 a (by simp) e) (Apart.updF H hl hp ⟨A1 ++ [x.1], (pre ++ (a, o) :: post).map (·.1), by rw [e1, e2]; simp, rfl⟩)
section
variable {prog : Program} {w : World} {A : Around} {E : Value → Shared → Prop} {s : Shared}
theorem key_list_lt {l b : Addr} {vs us : List Value} {ds es : List Int} {n n2 : Nat} {Q : Bool → Shared → Prop} (hl : s.heap.get? l = some (listOf vs.toArray n)) (hb : s.heap.get? b = some (listOf us.toArray n2)) (hv : IntsAre vs ds) (hu : IntsAre us es)
    (hr : A.units < cLine) (h : Q (lexI ds es) s) : wpAny (model prog w) A (keyLt' oneType' (.ref l) (.ref b)) Q E s := by
  rw [keyLt'_oneType, oneLt'_eq]
  simp only [if_true]
  refine wpAny_bind (wpAny_cRoomFor hr ?_)
  refine wpAny_bind (wpAny_callSpecialIfBound?_slot ⟨_, hl, rfl⟩ PySem.F.slot_list_lt (call_list_lt hl hb hv hu ?_))
  exact wpAny_truthy_bool h
theorem kind_lists {vs : List Value} {R : SortKind → Shared → Prop} (h2 : 2 ≤ vs.length) (hT : ∀ v ∈ vs, ∃ a xs n, v = .ref a ∧ s.heap.get? a = some (listOf xs n)) (h : R oneType' s) : wpAny (model prog w) A (keyKind' vs.toArray) R E s := by
  refine kas_kind (T := .type "list") h2 (fun v hv => ?_) (by decide) (by decide) h
  obtain ⟨a, xs, n, rfl, e⟩ := hT v hv
  exact (Looks.ld e).andThen .now
end
end
theorem Again.at32 {M : Model} {A : Around} {env : Env} {Q : Flow → Shared → Prop} {E : Value → Shared → Prop} {s : Shared} (h : Q .next s) : wpAny M A (execs [] env) Q E s := by w_top off; walk1; exact h
section
set_option maxRecDepth 100000
noncomputable def rdw (signs : List (Nat × Tok)) : Nat → List (Nat × Tok)
  | 0 => signs
  | i + 1 => (word (rdw signs i)).2
theorem with_new {g h h' : Heap} {L : Addr} {m : Str → Option Value} {news : List (Addr × Obj)} {o : Obj} (F : Fr g L h m) (N : News g L h' news) (e : h'.get? h.objs.size = some o) : News g L h' ((h.objs.size, o) :: news) := fun p hp => by
  rcases List.mem_cons.mp hp with rfl | hp
  · exact ⟨e, Nat.ne_of_gt F.ns.lt, Heap.get?_none_of_le (Nat.le_trans F.above (Nat.le_of_lt F.ns.lt))⟩
  · exact N p hp
theorem lt_new {g h : Heap} {L : Addr} {news : List (Addr × Obj)} (N : News g L h news) : ∀ p ∈ news, p.1 < h.objs.size := fun p hp => Heap.lt_size (N p hp).1
noncomputable abbrev tb7 (co : Addr) : Array Value := #[] ++ #[rawInt ((163 : Nat) : Int), rawInt ((34 : Nat) : Int), .ref co]
inductive JW (P : Params) (wl : Addr) (m : Str → Option Value) (X : LX) (signs : List (Nat × Tok)) (LA : List Addr) (b : Nat → Nat) (js : List Nat) (mid pls : List (Addr × Obj)) (i : Nat) (m' : Str → Option Value) (news' : List (Addr × Obj)) : Prop
  | mk (m1 : m' "words" = some (.ref wl)) (m2 : ∀ x : Str, x ≠ Str.ofString "words" → x ≠ Str.ofString "k" → m' x = m x) (l' : List (Addr × Obj)) (kw : Nat) (ws : List (Str × Tok)) (hl : IsLex P X ((i : Nat) + (if i = 0 then 1 else 0) : Nat) [] (rdw signs i) l') (hm : l'.map (·.1) = LA)
    (hws : ws.map (fun p => p.1) = (js.take i).map (fun j => (⟨(List.replicate (((pths b 8).getD j []).length + 1) 46 ++ ((nms.getD j Str.empty).cps.toList)).toArray⟩ : Str)))
    (e : news' = (wl, listOf (strValues ws).toArray kw) :: (mid ++ (l' ++ pls)))
section
variable {w : World} {mg mb : Str → Option Value} {g : Heap} {A : Around} {s : Shared} {E : Value → Shared → Prop} {Q : Flow → Shared → Prop}
set_option maxHeartbeats 4000000
theorem law_s67 (G : Gnd w mg mb g) (hroom : A.depth < 500) (hh : A.handled = none) (hu : A.units < 8000) (C2 : CodeHd g 158 156) {L fa pl nl cl : Addr} {o1 o3 o4 c2 CL t120 : Obj} {X : LX} {m : Str → Option Value} {nmt : List (Str × Tok)} {kn kp : Nat} {l pls : List (Addr × Obj)} {signs : List (Nat × Tok)} {LA PA : List Addr} {b : Nat → Nat}
   (F : Fr g L s.heap m) (N : News g L s.heap ((L + 1, o1) :: (L + 4, o4) :: (L + 3, o3) :: (pl, listOf (pls.map fun p => Value.ref p.1).toArray kp) :: (nl, listOf (strValues nmt).toArray kn) :: (cl, CL) :: (L + 2, c2) :: (120, t120) :: (156, tabObj #[]) :: (l ++ pls)))
   (H : Apart [L + 1, L + 4, L + 3, pl, nl, cl, L + 2, 120, 156] LA PA) (hLA : l.map (·.1) = LA) (hPA : pls.map (·.1) = PA)
   (d1 : o1.data = .cell (some (.ref X.lx))) (d4 : o4.data = .cell (some (.ref pl))) (d3 : o3.data = .cell (some (.ref nl)))
   (hl : IsLex w.params X 1 [] signs l) (hz : signs.length ≤ 900000)
   (hps : PathsAre pls (pths b 8)) (hnm : nmt.map (·.1) = nms)
   (hW : ∀ js : List Nat, js.Perm (List.range 8) → js.Pairwise (fun i j => pathLt b i j = true) → ∀ i, (hi : i < js.length) → (word (rdw signs i)).1 = List.replicate (((pths b 8).getD js[i] []).length + 1) 46 ++ ((nms.getD js[i] Str.empty).cps.toList) ∧ feeds (rdw signs (i + 1)) + i = feeds signs ∧ (rdw signs i).length ≤ 900000)
   (hQ : ∀ h' tk m' (l' : List (Addr × Obj)) (wl : Addr) (kw : Nat) (ws : List (Str × Tok)) (js : List Nat) (co7 : Addr), js.Perm (List.range 8) → js.Pairwise (fun i j => pathLt b i j = true) → ws.map (fun p => p.1) = js.map (fun j => ⟨(List.replicate (((pths b 8).getD j []).length + 1) 46 ++ ((nms.getD j Str.empty).cps.toList)).toArray⟩) → IsLex w.params X 8 [] (rdw signs 8) l' → l'.map (·.1) = LA →
      Apart [wl, L + 1, L + 4, L + 3, pl, nl, cl, L + 2, 120, 156] LA PA → m' "words" = some (.ref wl) → (∀ x : Str, x ≠ Str.ofString "words" → x ≠ Str.ofString "k" → m' x = m x) → Fr g L h' m' →
      News g L h' ((wl, listOf (strValues ws).toArray kw) :: (L + 1, o1) :: (L + 4, o4) :: (L + 3, o3) :: (pl, listOf (pls.map fun p => Value.ref p.1).toArray kp) :: (nl, listOf (strValues nmt).toArray kn) :: (cl, CL) :: (L + 2, c2) :: (120, t120) :: (156, tabObj (tb7 co7)) :: (l' ++ pls)) →
      wpAny (model PG w) A (execs (lBody.drop 8) (lEnv L fa)) Q E { s with heap := h', toks := tk }) :
   wpAny (model PG w) A (execs (lBody.drop 6) (lEnv L fa)) Q E s := by
  have XK := G.k
  obtain ⟨me, TT⟩ := G.t
  have hLL : L ∉ LA := fun q => by
    rw [← hLA] at q
    obtain ⟨p, hp, e⟩ := List.mem_map.mp q
    exact (leftP (dropP N 9) p hp).2.1 e
  have e0 := Eq.refl (lBody.drop 6)
  conv at e0 => rhs; whnf
  rw [e0]
  clear e0
  iterate 4 walk1
  refine newList_nil F N fun wl h1 F1 N1 l1 => ?_
  have H1 := H.push (pre := [(L + 1, o1), (L + 4, o4), (L + 3, o3), (pl, listOf (pls.map fun p => Value.ref p.1).toArray kp), (nl, listOf (strValues nmt).toArray kn), (cl, CL), (L + 2, c2), (120, t120), (156, tabObj #[])]) rfl hLA hPA l1
  clear F N
  iterate 3 walk1
  refine wpAny_For ?_
  iterate 10 walk1
  (with_reducible rename Fr _ _ _ _ => F2)
  rename_i hx _
  (with_reducible rename News _ _ _ _ => N2)
  refine range1_rows F2 N2 fun h3 tk3 t3 u3 v3 hr3 F3 N3 k3 => ?_
  have N3r := with_new F2 N3 hr3
  have l3 := lt_new N2
  have lL3 := F2.ns.lt
  clear k3 F2 N2
  iterate 2 walk1
  refine kla_eval rfl ?_
  have H3 : Apart [hx.objs.size, wl, L + 1, L + 4, L + 3, pl, nl, cl, L + 2, 120, 156] LA PA :=
    H1.push (pre := [(wl, listOf (strValues []).toArray 0), (L + 1, o1), (L + 4, o4), (L + 3, o3), (pl, listOf (pls.map fun p => Value.ref p.1).toArray kp), (nl, listOf (strValues nmt).toArray kn), (cl, CL), (L + 2, c2), (120, t120), (156, tabObj #[])]) rfl hLA hPA l3
  refine kla_nest F3 N3r TT C2 rfl (ps := #[]) (H3.updF (pre := [_, _, _, _, _, _, _, _, _, _]) (post := []) hLA hPA ?hx) (by kn_triples) (by kn_among) rfl fun fn co oc vs tq ctv h8 tk8 F8 N8 hoc hvs l8 l9 => ?_
  case hx => exact ⟨[], _, rfl, rfl⟩
  have N8' : News g L h8 ((fn, lam7Obj ((mg (Str.ofString "__name__")).getD Value.none) (L + 4) co ctv) :: (co, oc) :: (hx.objs.size, ({ cls := .type "range", dict := none, data := .fields #[.int 0 t3, .int 8 u3, .int 1 v3], slots := #[] } : Obj)) :: (wl, listOf (strValues []).toArray 0) :: (L + 1, o1) :: (L + 4, o4) :: (L + 3, o3) :: (pl, listOf (pls.map fun p => Value.ref p.1).toArray kp) :: (nl, listOf (strValues nmt).toArray kn) :: (cl, CL) :: (L + 2, c2) :: (120, t120) :: (156, tabObj (tb7 co)) :: (l ++ pls)) := by with_unfolding_all exact N8
  replace hvs : vs[1]? = some (Value.str "law.<locals>.<lambda>" tq) := by with_unfolding_all exact hvs
  clear N8 N3r F3
  iterate 1 walk1
  show wpAny _ _ (call (.builtin "sorted") [.ref hx.objs.size] [(Str.ofString "key", .ref fn)]) _ _ _
  have mfn := N8' _ (.head _)
  have hrn := (N8' _ (.tail _ (.tail _ (.head _)))).1
  have i4 : (L + 4, o4) ∈ ((fn, lam7Obj ((mg (Str.ofString "__name__")).getD Value.none) (L + 4) co ctv) :: (co, oc) :: (hx.objs.size, ({ cls := .type "range", dict := none, data := .fields #[.int 0 t3, .int 8 u3, .int 1 v3], slots := #[] } : Obj)) :: (wl, listOf (strValues []).toArray 0) :: (L + 1, o1) :: (L + 4, o4) :: (L + 3, o3) :: (pl, listOf (pls.map fun p => Value.ref p.1).toArray kp) :: (nl, listOf (strValues nmt).toArray kn) :: (cl, CL) :: (L + 2, c2) :: (120, t120) :: (156, tabObj (tb7 co)) :: (l ++ pls)) := atM 5 rfl
  have ipl : (pl, listOf (pls.map fun p => Value.ref p.1).toArray kp) ∈ ((fn, lam7Obj ((mg (Str.ofString "__name__")).getD Value.none) (L + 4) co ctv) :: (co, oc) :: (hx.objs.size, ({ cls := .type "range", dict := none, data := .fields #[.int 0 t3, .int 8 u3, .int 1 v3], slots := #[] } : Obj)) :: (wl, listOf (strValues []).toArray 0) :: (L + 1, o1) :: (L + 4, o4) :: (L + 3, o3) :: (pl, listOf (pls.map fun p => Value.ref p.1).toArray kp) :: (nl, listOf (strValues nmt).toArray kn) :: (cl, CL) :: (L + 2, c2) :: (120, t120) :: (156, tabObj (tb7 co)) :: (l ++ pls)) := atM 7 rfl
  obtain ⟨NL, hNL⟩ : ∃ NL : List (Addr × Obj), NL = ((fn, lam7Obj ((mg (Str.ofString "__name__")).getD Value.none) (L + 4) co ctv) :: (co, oc) :: (hx.objs.size, ({ cls := .type "range", dict := none, data := .fields #[.int 0 t3, .int 8 u3, .int 1 v3], slots := #[] } : Obj)) :: (wl, listOf (strValues []).toArray 0) :: (L + 1, o1) :: (L + 4, o4) :: (L + 3, o3) :: (pl, listOf (pls.map fun p => Value.ref p.1).toArray kp) :: (nl, listOf (strValues nmt).toArray kn) :: (cl, CL) :: (L + 2, c2) :: (120, t120) :: (156, tabObj (tb7 co)) :: (l ++ pls)) := ⟨_, rfl⟩
  have ifn : (fn, lam7Obj ((mg (Str.ofString "__name__")).getD Value.none) (L + 4) co ctv) ∈ NL := by rw [hNL]; exact .head _
  have ico : (co, oc) ∈ NL := by rw [hNL]; exact .tail _ (.head _)
  rw [← hNL] at N8' i4 ipl
  have ips : ∀ p ∈ pls, p ∈ NL := fun p hp => by rw [hNL]; exact List.mem_of_mem_drop (i := 13) (List.mem_append_right _ hp)
  have lps : pls.length = 8 := by rw [hps.length, pths_len]
  have pat : ∀ j, j < 8 → ∃ p vs, pls[j]? = some p ∧ p.2 = listOf vs.toArray 0 ∧ IntsAre vs ((pths b 8).getD j []) := fun j hj => hps.at j (by rw [pths_len]; exact hj)
  refine sortedJ (n := 8) (κ := oneType') (lt := pathLt b) (fun D i ks news => ks = (pls.take i).map (fun p => Value.ref p.1) ∧ (∀ p ∈ news, p.1 < D) ∧ news = NL) hh F8 N8' hrn (by decide) (by decide) (by decide) (by decide) (fun D hD => ⟨rfl, hD, rfl⟩) (pathLt_ok b) ?step ?off ?kind ?ask ?fin
  case step =>
    rintro kS D e1 i t ks news e s' hi ⟨rfl, hlt, rfl⟩ ltD _ F N
    have N' : News g L s'.heap news := fun p hp => N p (.tail _ (.tail _ hp))
    refine hideP fun G9 hG9 => ?_
    obtain ⟨p, vs, ep, eo, hvs⟩ := pat i hi
    refine hG9 ?_
    clear hG9
    refine wpAny_call (lam7_spec G (by exact F.keep) (by show A.depth < 900; walk_at "om") (v := .ref p.1) (N' _ ifn).1 ⟨co, oc, _, tq, rfl, (N' _ ico).1, hoc, by assumption⟩ d4 (List.forall_mem_cons.mpr ⟨⟨(N' _ i4).1, (N' _ i4).2.2⟩, List.forall_mem_cons.mpr ⟨⟨(N' _ ipl).1, (N' _ ipl).2.2⟩, List.forall_mem_nil _⟩⟩) (by rw [List.getElem?_map, ep]; rfl) (by simp; walk_at "om") fun h' tk kb => ?_)
    refine ⟨h', tk, news, rfl, F.kept (Keep.all kb), N.grown (Keep.all kb), fun p hp => Nat.ne_of_lt (Nat.lt_trans (hlt p hp) ltD), ?_, hlt, rfl⟩
    rw [List.take_add_one, List.map_append, ep]; rfl
  case off =>
    rintro D i ks news ⟨_, hlt, _⟩ p hp
    exact Nat.ne_of_lt (hlt p hp)
  case kind =>
    rintro D ks news s' R ⟨rfl, _, rfl⟩ N hR
    refine kind_lists (by simp; walk_at "om") (fun v hv => ?_) hR
    rw [List.take_of_length_le (by walk_at "om")] at hv
    obtain ⟨p, hp, rfl⟩ := List.mem_map.mp hv
    obtain ⟨j, hj, ej⟩ := List.getElem_of_mem hp
    refine hideP fun G9 hG9 => ?_
    obtain ⟨p', vs, ep, eo, hvs⟩ := pat j (by walk_at "om")
    refine hG9 ?_
    clear hG9
    rw [List.getElem?_eq_getElem hj, ej] at ep
    cases ep
    exact ⟨p.1, vs.toArray, 0, rfl, by rw [← eo]; exact (N p (ips p hp)).1⟩
  case ask =>
    rintro D ks news s' R i j ⟨rfl, _, rfl⟩ N hi hj hR
    refine hideP fun G9 hG9 => ?_
    obtain ⟨p, vs, ep, eo, hvs⟩ := pat i hi
    refine hG9 ?_
    clear hG9
    refine hideP fun G9 hG9 => ?_
    obtain ⟨q, us, eq, eo2, hus⟩ := pat j hj
    refine hG9 ?_
    clear hG9
    rw [List.take_of_length_le (by walk_at "om"), List.getD_eq_getElem?_getD, List.getD_eq_getElem?_getD, List.getElem?_map, List.getElem?_map, ep, eq]
    exact key_list_lt (by rw [← eo]; exact (N p (ips p (List.mem_of_getElem? ep))).1) (by rw [← eo2]; exact (N q (ips q (List.mem_of_getElem? eq))).1) hvs hus (by show A.units + 1 + 1 < 9900; walk_at "om") hR
  case fin =>
    rintro D kS ec ek ks news h9 tk9 out js ⟨_, hlt, rfl⟩ hperm hpair hout F9 N9 ltD
    have ltl : ∀ p ∈ (wl, listOf (strValues []).toArray 0) :: (L + 1, o1) :: (L + 4, o4) :: (L + 3, o3) :: (pl, listOf (pls.map fun p => Value.ref p.1).toArray kp) :: (nl, listOf (strValues nmt).toArray kn) :: (cl, CL) :: (L + 2, c2) :: (120, t120) :: (156, tabObj (tb7 co)) :: (l ++ pls), p.1 < D := fun p hp => hlt p (by rw [hNL]; exact .tail _ (.tail _ (.tail _ hp)))
    have hA9 : ∀ a ∈ [wl, L + 1, L + 4, L + 3, pl, nl, cl, L + 2, 120, 156], a ≠ D := fun a ha => by
      have : a ∈ ([(wl, listOf (strValues []).toArray 0), (L + 1, o1), (L + 4, o4), (L + 3, o3), (pl, listOf (pls.map fun p => Value.ref p.1).toArray kp), (nl, listOf (strValues nmt).toArray kn), (cl, CL), (L + 2, c2), (120, t120), (156, tabObj (tb7 co))] : List (Addr × Obj)).map (·.1) := ha
      obtain ⟨p, hp, rfl⟩ := List.mem_map.mp this
      exact Nat.ne_of_lt (ltl p (List.mem_append_left (l ++ pls) hp))
    have hD9 : D ∉ LA := fun q => by
      rw [← hLA] at q
      obtain ⟨p, hp, e⟩ := List.mem_map.mp q
      have := leftP (dropP ltl 10) p hp
      rw [e] at this
      exact Nat.lt_irrefl _ this
    have H9 := H1.behind hA9 hD9
    have N9x := N9
    rw [hNL] at N9x
    have N10 : News g L h9 ((wl, listOf (strValues []).toArray 0) :: (L + 1, o1) :: (L + 4, o4) :: (L + 3, o3) :: (pl, listOf (pls.map fun p => Value.ref p.1).toArray kp) :: (nl, listOf (strValues nmt).toArray kn) :: (cl, CL) :: (L + 2, c2) :: (120, t120) :: (156, tabObj (tb7 co)) :: (l ++ ((D, listOf out.toArray ec) :: pls))) := pickP N9x [5, 6, 7, 8, 9, 10, 11, 12, 13, 14] (appP (leftP (dropP N9x 15)) (consP (N9x _ (.head _)) (rightP (dropP N9x 15))))
    clear N9x
    have iD : (D, listOf out.toArray ec) ∈ ((wl, listOf (strValues []).toArray 0) :: (L + 1, o1) :: (L + 4, o4) :: (L + 3, o3) :: (pl, listOf (pls.map fun p => Value.ref p.1).toArray kp) :: (nl, listOf (strValues nmt).toArray kn) :: (cl, CL) :: (L + 2, c2) :: (120, t120) :: (156, tabObj (tb7 co)) :: (l ++ ((D, listOf out.toArray ec) :: pls)) : List (Addr × Obj)) := List.mem_of_mem_drop (i := 10) (List.mem_append_right _ (.head _))
    clear N9 N8' hlt
    refine iterList (items := out.toArray) F9 N10 ⟨_, N10.get iD, rfl, _, rfl⟩ fun it h10 oi F10 N11 hc hd l10 => ?_
    have H10 := H9.push (pre := [(wl, listOf (strValues []).toArray 0), (L + 1, o1), (L + 4, o4), (L + 3, o3), (pl, listOf (pls.map fun p => Value.ref p.1).toArray kp), (nl, listOf (strValues nmt).toArray kn), (cl, CL), (L + 2, c2), (120, t120), (156, tabObj (tb7 co))]) (pls := (D, listOf out.toArray ec) :: pls) rfl hLA (by rw [List.map_cons, hPA]) l10
    have lout : out.length = 8 := by rw [hout.length, List.length_map, hperm.length_eq, List.length_range]
    have ljs : js.length = 8 := by rw [hperm.length_eq, List.length_range]
    clear N10
    refine loopList (items := out.toArray) (by exact hh) (JW w.params wl m X signs LA b js ((L + 1, o1) :: (L + 4, o4) :: (L + 3, o3) :: (pl, listOf (pls.map fun p => Value.ref p.1).toArray kp) :: (nl, listOf (strValues nmt).toArray kn) :: (cl, CL) :: (L + 2, c2) :: (120, t120) :: [(156, tabObj (tb7 co))]) ((D, listOf out.toArray ec) :: pls)) ?hl F10 N11 hc hd ?h0 ?hap ?step ?hR
    case hl =>
      rintro i m' news' ⟨_, _, l', kw, ws, _, _, _, rfl⟩ h F N
      exact ⟨_, (rightP (rightP (dropP N 10)) _ (.head _)).1, rfl, _, rfl⟩
    case h0 => exact ⟨lk_eq, fun x h1 _ => if_neg h1, l, 0, [], hl, hLA, rfl, rfl⟩
    case hap =>
      rintro i m' news' ⟨_, _, l', kw, ws, _, hm, _, rfl⟩ p hp
      have hnd := H10.nd
      simp only [List.pairwise_cons] at hnd
      have ha : ∀ a ∈ [wl, L + 1, L + 4, L + 3, pl, nl, cl, L + 2, 120, 156], a ≠ it := fun a ha => (hnd.1 a ha).symm
      rcases List.mem_append.mp (show p ∈ ([(wl, listOf (strValues ws).toArray kw), (L + 1, o1), (L + 4, o4), (L + 3, o3), (pl, listOf (pls.map fun p => Value.ref p.1).toArray kp), (nl, listOf (strValues nmt).toArray kn), (cl, CL), (L + 2, c2), (120, t120), (156, tabObj (tb7 co))] : List (Addr × Obj)) ++ (l' ++ ((D, listOf out.toArray ec) :: pls)) from hp) with hp | hp
      · exact ha p.1 (show p.1 ∈ ([(wl, listOf (strValues ws).toArray kw), (L + 1, o1), (L + 4, o4), (L + 3, o3), (pl, listOf (pls.map fun p => Value.ref p.1).toArray kp), (nl, listOf (strValues nmt).toArray kn), (cl, CL), (L + 2, c2), (120, t120), (156, tabObj (tb7 co))] : List (Addr × Obj)).map (·.1) from List.mem_map_of_mem hp)
      rcases List.mem_append.mp hp with hp | hp
      · exact fun e => H10.al it (.head _) (by rw [← hm, ← e]; exact List.mem_map_of_mem hp)
      · exact fun e => H10.ap it (.head _) (by rw [← hPA, ← e]; exact List.mem_map_of_mem hp)
    case step =>
      rintro i v m' news' h' tk o' Qt Et hT hE hv ⟨m1, m2, l', kw, ws, hl', hm', hws, rfl⟩ F N
      have hi : i < 8 := by have := (Array.getElem?_eq_some_iff.mp hv).1; simpa [lout] using this
      have lws : ws.length = i := by
        have := congrArg List.length hws
        simp [List.length_take, ljs] at this
        walk_at "om"
      have hij : i < js.length := by walk_at "om"
      obtain ⟨t, ev⟩ := int_at' hout (i := i) (by simp; walk_at "om")
      have ev2 : v = .int ((js[i] : Nat) : Int) t := by
        rw [List.getElem?_toArray] at hv
        rw [hv] at ev
        cases ev
        congr 1
        simp [List.getD_eq_getElem?_getD, List.getElem?_map, List.getElem?_eq_getElem hij]
      subst ev2
      have hj8 : js[i] < 8 := List.mem_range.mp (hperm.mem_iff.mp (List.getElem_mem hij))
      obtain ⟨w1, w2, w3⟩ := hW js hperm hpair i hij
      have lnm : nmt.length = 8 := by have := congrArg List.length hnm; rw [List.length_map] at this; rw [this]; rfl
      have hjn : js[i] < nmt.length := by walk_at "om"
      have enm : nms.getD js[i] Str.empty = (nmt[js[i]]).1 := by
        rw [← hnm, List.getD_eq_getElem?_getD, List.getElem?_map, List.getElem?_eq_getElem hjn]; rfl
      refine s7_turn G (by walk_at "om") hh (fa := fa) (L := L) (it := it) (wl := wl) (pl := pl) (nl := nl) (cl := cl) (rest := (D, listOf out.toArray ec) :: pls) (ds := pths b 8) (j := js[i]) (nm := (nmt[js[i]]).1) (tn := (nmt[js[i]]).2) F N H10 hm' (by rw [List.map_cons, hPA]) (fun p hp => .tail _ hp) d1 d4 d3 hl' w3 (by walk_at "om") hps (by rw [pths_len]; walk_at "om") (by rw [pths_len]; exact Nat.le_refl _) (List.getElem?_eq_getElem hjn) ?_ ?_ ?_ lk_eq ?_ ?_ ?_
      · rw [List.getD_eq_getElem?_getD, List.getElem?_eq_getElem (by rw [pths_len]; exact hj8), Option.getD_some]
        exact pths_le (List.getElem_mem _)
      · have hm1 : (nmt[js[i]]).1 ∈ nms := by rw [← hnm]; exact List.mem_map_of_mem (List.getElem_mem hjn)
        exact Nat.le_trans (nms_ok _ hm1).2 (by decide)
      · exact lk_ne (by decide) m1
      · rw [← enm]; exact w1
      · have ef : (((i : Nat) + (if i = 0 then 1 else 0) : Nat) : Int) + feeds (rdw signs i) = 1 + feeds signs := by
          by_cases e0 : i = 0
          · subst e0; rfl
          · obtain ⟨k, rfl⟩ : ∃ k, i = k + 1 := ⟨i - 1, by walk_at "om"⟩
            obtain ⟨_, w2', _⟩ := hW js hperm hpair k (by walk_at "om")
            rw [if_neg e0]
            walk_at "om"
        rw [ef, lws]
        show 1 + feeds signs = ((i + 1 : Nat) : Int) + feeds (rdw signs (i + 1))
        walk_at "om"
      · intro h2 tk2 l2 kw2 t2 hl2 hm2 F2 N2
        refine hT _ _ ⟨h2, tk2, _, _, rfl, F2, N2, lk_ne (by decide) m1, fun x h1 h2 => (if_neg h2).trans (m2 x h1 h2), l2, kw2, ws ++ [(⟨(word (rdw signs i)).1.toArray⟩, t2)], ?_, hm2, ?_, rfl⟩
        · rw [lws] at hl2
          rw [if_neg (Nat.succ_ne_zero i)]
          exact hl2
        · rw [List.map_append, hws, List.take_add_one, List.getElem?_eq_getElem hij, List.map_append, w1]
          rfl
    case hR =>
      rintro h' tk m' news' ⟨m1, m2, l', kw, ws, hl', hm', hws, rfl⟩ F N
      dsimp only
      rw [List.size_toArray, lout] at hl' hws
      rw [List.take_of_length_le (by walk_at "om")] at hws
      refine hQ h' tk m' l' wl kw ws js co hperm hpair hws hl' hm' H1 m1 m2 F (pickP N [0, 1, 2, 3, 4, 5, 6, 7, 8, 9] (appP (leftP (rightP (dropP N 10))) (dropP (rightP (rightP (dropP N 10))) 1)))
end
end
theorem Again.at33 {M : Model} {A : Around} {env : Env} {Q : Flow → Shared → Prop} {E : Value → Shared → Prop} {s : Shared} (h : Q .next s) : wpAny M A (execs [] env) Q E s := by w_top off; walk1; exact h
section
open PySem.SeqAt
set_option maxRecDepth 100000
noncomputable def tk5s : List Str := [Str.ofString "..", Str.ofString "\" ", Str.ofString "#\x0b.", Str.ofString "a", Str.ofString ""]
theorem eqAt_str {A : Around} {s : Shared} (a : Str) (t u : Tok) : EqAt A s (.str a t) (.str a u) true := by
  have := EqAt.str_str (A := A) (s := s) a t a u
  rw [beq_self_eq_true] at this
  exact this
theorem eqAt_int {A : Around} {s : Shared} (a : Int) (t u : Tok) : EqAt A s (.int a t) (.int a u) true := by
  have := EqAt.int_int (A := A) (s := s) a t a u
  rw [beq_self_eq_true] at this
  exact this
theorem five {ws : List (Str × Tok)} (h : ws.map (·.1) = tk5s) : ∃ a0 a1 a2 a3 a4 : Tok, ws = [(Str.ofString "..", a0), (Str.ofString "\" ", a1), (Str.ofString "#\x0b.", a2), (Str.ofString "a", a3), (Str.ofString "", a4)] := by
  rcases ws with _ | ⟨⟨x0, t0⟩, _ | ⟨⟨x1, t1⟩, _ | ⟨⟨x2, t2⟩, _ | ⟨⟨x3, t3⟩, _ | ⟨⟨x4, t4⟩, _ | ⟨q, r⟩⟩⟩⟩⟩⟩
  iterate 5 (exact absurd (congrArg List.length h) (by simp [tk5s]))
  · have h' : [x0, x1, x2, x3, x4] = [Str.ofString "..", Str.ofString "\" ", Str.ofString "#\x0b.", Str.ofString "a", Str.ofString ""] := h
    simp only [List.cons.injEq, and_true] at h'
    refine hideP fun G9 hG9 => ?_
    obtain ⟨rfl, rfl, rfl, rfl, rfl⟩ := h'
    refine hG9 ?_
    clear hG9
    exact ⟨t0, t1, t2, t3, t4, rfl⟩
  · exact absurd (congrArg List.length h) (by simp [tk5s])
section
variable {w : World} {mg mb : Str → Option Value} {g : Heap} {A : Around} {s : Shared} {E : Value → Shared → Prop} {Q : Flow → Shared → Prop}
set_option maxHeartbeats 4000000
theorem law_s8 (G : Gnd w mg mb g) (hroom : A.depth < 500) (hh : A.handled = none) (hu : A.units < 8000) {L fa pl nl cl wl : Addr} {o1 o3 o4 c2 CL PL NL t120 t156 ow : Obj} {X : LX} {m : Str → Option Value} {l pls : List (Addr × Obj)} {signs : List (Nat × Tok)} {LA PA : List Addr}
   (F : Fr g L s.heap m) (N : News g L s.heap ((wl, ow) :: (L + 1, o1) :: (L + 4, o4) :: (L + 3, o3) :: (pl, PL) :: (nl, NL) :: (cl, CL) :: (L + 2, c2) :: (120, t120) :: (156, t156) :: (l ++ pls)))
   (H : Apart [wl, L + 1, L + 4, L + 3, pl, nl, cl, L + 2, 120, 156] LA PA) (hLA : l.map (·.1) = LA) (hPA : pls.map (·.1) = PA)
   (d1 : o1.data = .cell (some (.ref X.lx))) (hl : IsLex w.params X 8 [] (rdw signs 8) l)
   (hT : ∀ i, (hi : i < 5) → (word (rdw signs (8 + i))).1 = (tk5s.getD i Str.empty).cps.toList ∧ (rdw signs (8 + i)).length ≤ 900000) (hf : feeds (rdw signs 8) = 3) (hE : rdw signs 13 = [])
   (hQ : ∀ h' tk (l' : List (Addr × Obj)), IsLex w.params X 11 [] [] l' → l'.map (·.1) = LA → Fr g L h' m →
      News g L h' ((wl, ow) :: (L + 1, o1) :: (L + 4, o4) :: (L + 3, o3) :: (pl, PL) :: (nl, NL) :: (cl, CL) :: (L + 2, c2) :: (120, t120) :: (156, t156) :: (l' ++ pls)) →
      wpAny (model PG w) A (execs (lBody.drop 9) (lEnv L fa)) Q E { s with heap := h', toks := tk }) :
   wpAny (model PG w) A (execs (lBody.drop 8) (lEnv L fa)) Q E s := by
  have XK := G.k
  obtain ⟨me, TT⟩ := G.t
  have hLL : L ∉ LA := fun q => by
    rw [← hLA] at q
    obtain ⟨p, hp, e⟩ := List.mem_map.mp q
    exact (leftP (dropP N 10) p hp).2.1 e
  have e0 := Eq.refl (lBody.drop 8)
  conv at e0 => rhs; whnf
  rw [e0]
  clear e0
  iterate 4 walk1
  refine LCg.ListComp_U F (by with_unfolding_all rfl) (by decide) (by rfl) (by decide) (by rfl) ?_
  iterate 6 walk1
  refine range1_rows F N fun h5 tk5 t5 u5 v5 hr5 F5 N5 _ => ?_
  refine LCg.CompSrc.range (n := 5) (by exact hh) F5 N5 hr5 (by decide) (by decide) (by rw [sizeLine_eq]; walk_at "om") (fun g2 => ?_)
  refine CompRest.turns (n := 5) (fun i ys news2 => ∃ (l' : List (Addr × Obj)) (ws : List (Str × Tok)), IsLex w.params X (8 + feeds (rdw signs 8) - feeds (rdw signs (8 + i))) [] (rdw signs (8 + i)) l' ∧ l'.map (·.1) = LA ∧ ys = strValues ws ∧ ws.map (·.1) = tk5s.take i ∧ news2 = (wl, ow) :: (L + 1, o1) :: (L + 4, o4) :: (L + 3, o3) :: (pl, PL) :: (nl, NL) :: (cl, CL) :: (L + 2, c2) :: (120, t120) :: (156, t156) :: (l' ++ pls)) (fun i ys news1 v I2 oI C oC D m₂ h tk E' Qt hTt hi hJ hP hC hx F N off ne => ?_) (fun ys news j => ?_) _ _ _ _ (Nat.zero_add _) ⟨l, [], by rw [Nat.add_zero, Int.add_sub_cancel]; exact hl, hLA, rfl, rfl, rfl⟩
  · refine hideP fun G9 hG9 => ?_
    obtain ⟨l1, ws, hl1, hm1, rfl, hws, rfl⟩ := hJ
    refine hG9 ?_
    clear hG9
    obtain ⟨w1, w2⟩ := hT i hi
    have hlo := hl1
    have offm := off.mem
    have offl : ∀ a ∈ LA, a ≠ I2 ∧ a ≠ C ∧ a ≠ D := fun a ha => by
      rw [← hm1] at ha
      obtain ⟨p, hp, e⟩ := List.mem_map.mp ha
      have := leftP (dropP offm 10) p hp
      rw [e] at this
      exact this
    refine hideP fun G9 hG9 => ?_
    obtain ⟨hnd, T, t1, U, pm, ctv, cob, oc2, vs2, tq, k1, k2, rfl, hc2, hoc2, hq2⟩ := hl1
    refine hG9 ?_
    clear hG9
    have N' := N
    simp only [List.cons_append, List.nil_append] at N'
    clear N
    iterate 5 walk1
    refine wpAny_call (gettok G (by exact F.keep) (by walk_at "om") (by exact hh) hlo (lex_led (pre := [_, _, _, _, _, _, _, _, _, _, _, _, _]) (rest := pls) N') w2 fun h4 tk4 t4 n4 B4 en4 => ?_)
    refine hideP fun G9 hG9 => ?_
    obtain ⟨l4, hl4, hm4, F4, N4⟩ := lex_back (pre := [_, _, _, _, _, _, _, _, _, _, _, _, _]) (rest := pls) hm1 hLL F N' (List.forall_mem_cons.mpr ⟨fun q => (offl _ q).1 rfl, List.forall_mem_cons.mpr ⟨fun q => (offl _ q).2.1 rfl, List.forall_mem_cons.mpr ⟨fun q => (offl _ q).2.2 rfl, H.pre rfl⟩⟩⟩) (H.suf hPA) B4
    refine hG9 ?_
    clear hG9
    dsimp only
    refine hTt _ _ ⟨_, _, _, rfl, F4, N4, LCg.Off3.of (pickP offm [0, 1, 2, 3, 4, 5, 6, 7, 8, 9] (appP (fun p hp => offl _ (by rw [← hm4]; exact List.mem_map_of_mem hp)) (rightP (dropP offm 10)))), trivial, l4, ws ++ [(⟨(word (rdw signs (8 + i))).1.toArray⟩, t4)], ?_, hm4, by simp [strValues], ?_, rfl⟩
    · have en : n4 = 8 + feeds (rdw signs 8) - feeds (rdw signs (8 + (i + 1))) := by
        have : feeds (word (rdw signs (8 + i))).2 = feeds (rdw signs (8 + (i + 1))) := rfl
        walk_at "om"
      rw [← en]
      exact hl4
    · rw [List.map_append, hws, List.take_add_one, w1]
      have hi5 : i < tk5s.length := hi
      rw [List.getD_eq_getElem?_getD, List.getElem?_eq_getElem hi5]
      simp only [Option.getD_some, List.map_cons, List.map_nil, Option.toList_some, Array.toArray_toList]
  · refine hideP fun G9 hG9 => ?_
    obtain ⟨l1, ws, hl1, hm1, rfl, hws, rfl⟩ := j
    refine hG9 ?_
    clear hG9
    intro D h5 tk5 F5 N5 off5
    have off5' := off1_mem off5
    rw [show (8 : Int) + feeds (rdw signs 8) - feeds (rdw signs (8 + 5)) = 11 from by rw [hf, show 8 + 5 = 13 from rfl, hE]; rfl, show 8 + 5 = 13 from rfl, hE] at hl1
    have hlo := hl1
    refine hideP fun G9 hG9 => ?_
    obtain ⟨hnd, T, t1, U, pm, ctv, cob, oc2, vs2, tq, k1, k2, rfl, hc2, hoc2, hq2⟩ := hl1
    refine hG9 ?_
    clear hG9
    clear N F
    simp only [List.cons_append, List.nil_append] at N5
    iterate 6 walk1
    have lws : ws.length = 5 := by have := congrArg List.length hws; rw [List.length_map] at this; exact this
    refine newList_vals [.int 11 t1] F5 N5 (fun q1 h7 F7 N7 l7 => ?_) (by simp)
    refine kmk_add_lit (zs := strValues ws ++ [.int 11 t1]) F7 N7 ⟨_, N7.get (.tail _ (.head _)), rfl, _, rfl⟩ ⟨_, N7.get (.head _), rfl, _, rfl⟩ (by simp) (fun D1 h8 F8 N8 l8 => ?_) (by simp [strValues, sizeLine_eq]; walk_at "om")
    iterate 14 walk1
    refine newList_vals [.str (Str.ofString "..") _, .str (Str.ofString "\" ") _, .str (Str.ofString "#\x0b.") _, .str (Str.ofString "a") _, .str (Str.ofString "") _, .int 11 _] F8 N8 (fun q2 h9 F9 N9 l9 => ?_) (by simp)
    refine hideP fun G9 hG9 => ?_
    obtain ⟨a0, a1, a2, a3, a4, rfl⟩ := five hws
    refine hG9 ?_
    clear hG9
    refine RcNeAt.lists (e := fun _ => true) ⟨_, N9.get (.tail _ (.head _)), rfl, _, rfl⟩ ⟨_, N9.get (.head _), rfl, _, rfl⟩ (by rfl) (by show A.units < 9900; walk_at "om") ?_ PG w _ _ ?_
    · intro j h1 h2
      match j, h1, h2 with
      | 0, _, _ => exact eqAt_str _ _ _
      | 1, _, _ => exact eqAt_str _ _ _
      | 2, _, _ => exact eqAt_str _ _ _
      | 3, _, _ => exact eqAt_str _ _ _
      | 4, _, _ => exact eqAt_str _ _ _
      | 5, _, _ => exact eqAt_int _ _ _
      | j + 6, h1, _ => exact absurd h1 (by simp [strValues])
    rw [show ∀ n : Nat, (!(List.range n).all fun _ => true) = false from fun n => by simp]
    iterate 1 walk1
    rw [if_neg (by decide)]
    iterate 2 walk1
    dsimp only
    exact hQ h9 _ _ hlo hm1 F9 (dropP N9 4)
end
end
theorem Again.at34 {M : Model} {A : Around} {env : Env} {Q : Flow → Shared → Prop} {E : Value → Shared → Prop} {s : Shared} (h : Q .next s) : wpAny M A (execs [] env) Q E s := by w_top off; walk1; exact h
section
set_option maxRecDepth 100000
noncomputable def st10 : Stmt := lBody.getD 10 (.Pass default)
noncomputable def slt (a b : Str) : Bool := decide (a.cps.toList < b.cps.toList) && !decide (b.cps.toList < a.cps.toList)
noncomputable def insAt (row : List Str) (x : Str) : Nat := (row.filter fun y => slt y x).length
noncomputable def insRow (row : List Str) (x : Str) : List Str := row.take (insAt row x) ++ x :: row.drop (insAt row x)
section
variable {w : World} {mg mb : Str → Option Value} {g : Heap} {A : Around} {s : Shared} {E : Value → Shared → Prop} {Q : Flow → Shared → Prop}
set_option maxHeartbeats 4000000
theorem s10_turn (G : Gnd w mg mb g) (hroom : A.depth < 600) (hh : A.handled = none) {L fa it rl : Addr} {oi oc : Obj} {m : Str → Option Value} {rs : List (Str × Tok)} {kr : Nat} {rest : List (Addr × Obj)} {x : Str} {tx : Tok}
   (F : Fr g L s.heap m) (N : News g L s.heap ((it, oi) :: (L + 2, oc) :: (rl, listOf (strValues rs).toArray kr) :: rest))
   (hoc : oc.data = .cell (some (.str x tx))) (hrs : rs.length ≤ 8) (m1 : m "row" = some (.ref rl)) (n1 : @Ne Nat it rl) (n2 : @Ne Nat (L + 2) rl) (n3 : ∀ p ∈ rest, p.1 ≠ rl)
   (hQ : ∀ h' tk kr' rs', rs'.map (·.1) = insRow (rs.map (·.1)) x → Fr g L h' m → News g L h' ((it, oi) :: (L + 2, oc) :: (rl, listOf (strValues rs').toArray kr') :: rest) →
      Q .next { s with heap := h', toks := tk }) :
   wpAny (model PG w) A (execs (forB st10) (lEnv L fa)) Q E s := by
  have XK := G.k
  obtain ⟨me, TT⟩ := G.t
  have e0 := Eq.refl (forB st10)
  conv at e0 => rhs; whnf
  rw [e0]
  clear e0
  iterate 11 walk1
  refine LCt.ListComp_T F (by with_unfolding_all rfl) (by decide) (by rfl) (by decide) (by rfl) ?_
  iterate 1 walk1
  refine LCt.CompSrcT.ledger (by exact hh) F N (by k_mem) (by rw [sizeLine_eq]; simp [strValues]; walk_at "om") (fun g2 => ?_)
  refine CompRestT.turns (n := (strValues rs).toArray.size) (fun j ys news2 => ys.length = (((rs.take j).map (·.1)).filter fun y => slt y x).length ∧ news2 = (it, oi) :: (L + 2, oc) :: (rl, listOf (strValues rs).toArray kr) :: rest) (fun j ys news1 v I2 oI C oC D m₂ h tk E' Qt Q0 hT hT0 hj hJ hP hC hx F N off ne => ?_) (fun ys news j => ?_) _ _ _ _ (Nat.zero_add _) ⟨rfl, rfl⟩
  · obtain ⟨hl, rfl⟩ := hJ
    have hj8 : j < rs.length := by simpa [strValues] using hj
    obtain ⟨⟨y, ty⟩, hye⟩ : ∃ p, rs[j]'hj8 = p := ⟨_, rfl⟩
    have ev : v = .str y ty := by
      have hP' : (strValues rs)[j]? = some v := by simpa using hP
      rw [strValues, List.getElem?_map, List.getElem?_eq_getElem hj8, hye] at hP'
      exact (Option.some.inj hP').symm
    subst ev
    have htk : rs.take (j + 1) = rs.take j ++ [(y, ty)] := by rw [List.take_add_one, List.getElem?_eq_getElem hj8, hye]; rfl
    iterate 11 walk1
    refine ⟨XK.keeps F.keep, wpAny_call (strcoll_spec G (by exact F.keep) (by walk_at "om") fun h3 tk3 t3 kb3 => ?_)⟩
    have F3 := F.kept (Keep.all kb3)
    have N3 := N.grown (Keep.all kb3)
    clear F N
    dsimp only
    iterate 5 walk1
    have e1 : (b2i (decide (x.cps.toList < y.cps.toList)) - b2i (decide (y.cps.toList < x.cps.toList)) == -1) = slt y x := by
      unfold slt
      cases decide (x.cps.toList < y.cps.toList) <;> cases decide (y.cps.toList < x.cps.toList) <;> rfl
    rw [e1]
    cases hs : slt y x with
    | true =>
      iterate 1 walk1
      iterate 11 walk1
      refine ⟨XK.keeps F3.keep, wpAny_call (strcoll_spec G (by exact F3.keep) (by walk_at "om") fun h5 tk5 t5 kb5 => ?_)⟩
      have F5 := F3.kept (Keep.all kb5)
      have N5 := N3.grown (Keep.all kb5)
      clear F3 N3
      dsimp only
      iterate 3 walk1
      have e2 : (b2i (decide (y.cps.toList < x.cps.toList)) - b2i (decide (x.cps.toList < y.cps.toList)) == 1) = true := by
        rw [← hs]
        unfold slt at hs ⊢
        revert hs
        cases decide (x.cps.toList < y.cps.toList) <;> cases decide (y.cps.toList < x.cps.toList) <;> decide
      rw [e2]
      iterate 2 walk1
      rw [if_pos rfl]
      iterate 1 walk1
      exact hT _ _ ⟨_, _, _, rfl, F5, N5, off, .inr ⟨_, by k_mem, rfl, _, rfl⟩, by rw [htk, List.map_append, List.filter_append, List.length_append, List.length_append, hl]; simp [hs], rfl⟩
    | false =>
      iterate 1 walk1
      rw [if_neg (by decide)]
      exact hT0 _ ⟨_, _, _, rfl, F3, N3, off, .inr ⟨_, by k_mem, rfl, _, rfl⟩, by rw [htk, List.map_append, List.filter_append, List.length_append, hl]; simp [hs], rfl⟩
  · obtain ⟨hl, rfl⟩ := j
    rw [List.take_of_length_le (by simp [strValues])] at hl
    have hl8 : ys.length ≤ 8 := by rw [hl]; exact Nat.le_trans (List.length_filter_le _ _) (by simp; walk_at "om")
    intro D h5 tk5 F5 N5 off5
    have off5' := off1_mem off5
    iterate 1 walk1
    refine call_len_list (items := ys.toArray) ⟨_, N5.get (.head _), rfl, _, rfl⟩ (by simp; walk_at "om") ?_
    rw [List.size_toArray, hl]
    iterate 3 walk1
    have hk : insAt (rs.map (·.1)) x ≤ rs.length := by
      unfold insAt
      exact Nat.le_trans (List.length_filter_le _ _) (by simp)
    refine kl_insert (its := (strValues rs).toArray) (l := strValues (rs.take (insAt (rs.map (·.1)) x) ++ (x, tx) :: rs.drop (insAt (rs.map (·.1)) x))) F5 N5 ?f ?e (.tail (off5' (rl, _) (by k_mem)).symm (.tail n1 (.tail n2 (.head n3)))) (by simp [strValues, sizeLine_eq]; walk_at "om") fun h6 F6 N6 => ?_
    case f => simp [Builtin.List.listFitsIndex]; walk_at "om"
    case e =>
      rw [List.toList_toArray]
      unfold kl_ins
      rw [if_neg (by walk_at "om")]
      have em : min ((List.filter (fun y => slt y x) (List.map (fun x => x.fst) rs)).length : Int).toNat (strValues rs).length = insAt (rs.map (·.1)) x := by
        unfold insAt
        rw [Int.toNat_natCast]
        have : (strValues rs).length = rs.length := by simp [strValues]
        rw [this]
        exact Nat.min_eq_left hk
      rw [em]
      simp [strValues, List.map_take, List.map_drop]
    iterate 2 walk1
    refine hQ h6 _ _ (rs.take (insAt (rs.map (·.1)) x) ++ (x, tx) :: rs.drop (insAt (rs.map (·.1)) x)) ?_ F6 (fun p hp => N6 p (.tail _ hp))
    unfold insRow
    simp [List.map_take, List.map_drop]
end
end
theorem Again.at35 {M : Model} {A : Around} {env : Env} {Q : Flow → Shared → Prop} {E : Value → Shared → Prop} {s : Shared} (h : Q .next s) : wpAny M A (execs [] env) Q E s := by w_top off; walk1; exact h
section
set_option maxRecDepth 100000
theorem Apart.perm {A B LA PA : List Addr} (H : Apart A LA PA) (e : A.Perm B) : Apart B LA PA :=
  ⟨(e.pairwise_iff (fun h => h.symm)).mp H.nd, fun a ha => H.al a (e.mem_iff.mpr ha), fun a ha => H.ap a (e.mem_iff.mpr ha), H.pl⟩
theorem Apart.off {a : Addr} {A LA PA : List Addr} (H : Apart (a :: A) LA PA) {pre l pls : List (Addr × Obj)} (h1 : pre.map (·.1) = A) (h2 : l.map (·.1) = LA) (h3 : pls.map (·.1) = PA) : ∀ p ∈ pre ++ (l ++ pls), p.1 ≠ a := fun p hp => by
  rcases List.mem_append.mp hp with hp | hp
  · exact ((List.pairwise_cons.mp H.nd).1 p.1 (by rw [← h1]; exact List.mem_map_of_mem hp)).symm
  rcases List.mem_append.mp hp with hp | hp
  · exact fun e => H.al a (.head _) (by rw [← h2, ← e]; exact List.mem_map_of_mem hp)
  · exact fun e => H.ap a (.head _) (by rw [← h3, ← e]; exact List.mem_map_of_mem hp)
inductive JR (rl : Addr) (m : Str → Option Value) (ws : List (Str × Tok)) (rest : List (Addr × Obj)) (i : Nat) (m' : Str → Option Value) (news' : List (Addr × Obj)) : Prop
  | mk (m1 : m' "row" = some (.ref rl)) (m2 : ∀ x : Str, x ≠ Str.ofString "row" → m' x = m x) (kr : Nat) (rs : List (Str × Tok)) (hrs : rs.map (·.1) = ((ws.take i).map (·.1)).foldl insRow []) (hlen : rs.length = i) (e : news' = (rl, listOf (strValues rs).toArray kr) :: rest)
section
variable {w : World} {mg mb : Str → Option Value} {g : Heap} {A : Around} {s : Shared} {E : Value → Shared → Prop} {Q : Flow → Shared → Prop}
set_option maxHeartbeats 4000000
theorem law_s910 (G : Gnd w mg mb g) (hroom : A.depth < 500) (hh : A.handled = none) {L fa pl nl cl wl : Addr} {o1 o3 o4 c2 CL PL NL t120 t156 : Obj} {v2 : Option Value} {m : Str → Option Value} {ws : List (Str × Tok)} {kw : Nat} {l pls : List (Addr × Obj)} {LA PA : List Addr}
   (F : Fr g L s.heap m) (N : News g L s.heap ((wl, listOf (strValues ws).toArray kw) :: (L + 1, o1) :: (L + 4, o4) :: (L + 3, o3) :: (pl, PL) :: (nl, NL) :: (cl, CL) :: (L + 2, c2) :: (120, t120) :: (156, t156) :: (l ++ pls)))
   (H : Apart [wl, L + 1, L + 4, L + 3, pl, nl, cl, L + 2, 120, 156] LA PA) (hLA : l.map (·.1) = LA) (hPA : pls.map (·.1) = PA)
   (d2 : c2.data = .cell v2) (hws : ws.length ≤ 8) (m1 : m "words" = some (.ref wl))
   (hQ : ∀ h' tk m' (rl : Addr) (kr : Nat) (rs : List (Str × Tok)) (c2' : Obj), rs.map (·.1) = (ws.map (·.1)).foldl insRow [] → m' "row" = some (.ref rl) → (∀ x : Str, x ≠ Str.ofString "row" → m' x = m x) → Apart [rl, wl, L + 1, L + 4, L + 3, pl, nl, cl, L + 2, 120, 156] LA PA → Fr g L h' m' →
      News g L h' ((rl, listOf (strValues rs).toArray kr) :: (wl, listOf (strValues ws).toArray kw) :: (L + 1, o1) :: (L + 4, o4) :: (L + 3, o3) :: (pl, PL) :: (nl, NL) :: (cl, CL) :: (L + 2, c2') :: (120, t120) :: (156, t156) :: (l ++ pls)) →
      wpAny (model PG w) A (execs (lBody.drop 11) (lEnv L fa)) Q E { s with heap := h', toks := tk }) :
   wpAny (model PG w) A (execs (lBody.drop 9) (lEnv L fa)) Q E s := by
  have XK := G.k
  obtain ⟨me, TT⟩ := G.t
  have e0 := Eq.refl (lBody.drop 9)
  conv at e0 => rhs; whnf
  rw [e0]
  clear e0
  iterate 4 walk1
  refine newList_nil F N fun rl h1 F1 N1 l1 => ?_
  have H1 := H.push (pre := [(wl, listOf (strValues ws).toArray kw), (L + 1, o1), (L + 4, o4), (L + 3, o3), (pl, PL), (nl, NL), (cl, CL), (L + 2, c2), (120, t120), (156, t156)]) rfl hLA hPA l1
  clear F N
  iterate 3 walk1
  refine wpAny_For ?_
  iterate 1 walk1
  (with_reducible rename Fr _ _ _ _ => F2)
  (with_reducible rename News _ _ _ _ => N2)
  refine iterList (items := (strValues ws).toArray) F2 N2 ⟨_, N2.get (.tail _ (.head _)), rfl, _, rfl⟩ fun it h3 oi F3 N3 hc hd l3 => ?_
  have H3 := H1.push (pre := [(rl, listOf (strValues []).toArray 0), (wl, listOf (strValues ws).toArray kw), (L + 1, o1), (L + 4, o4), (L + 3, o3), (pl, PL), (nl, NL), (cl, CL), (L + 2, c2), (120, t120), (156, t156)]) rfl hLA hPA l3
  clear F2 N2
  have Hc : Apart [L + 2, it, rl, wl, L + 1, L + 4, L + 3, pl, nl, cl, 120, 156] LA PA := H3.perm (List.perm_middle (l₁ := [it, rl, wl, L + 1, L + 4, L + 3, pl, nl, cl]) (l₂ := [120, 156]))
  have Hi : Apart [it, L + 2, rl, wl, L + 1, L + 4, L + 3, pl, nl, cl, 120, 156] LA PA := Hc.perm (List.Perm.swap _ _ _)
  have Hr : Apart [rl, it, L + 2, wl, L + 1, L + 4, L + 3, pl, nl, cl, 120, 156] LA PA := Hi.perm (List.perm_middle (l₁ := [it, L + 2]) (l₂ := [wl, L + 1, L + 4, L + 3, pl, nl, cl, 120, 156]))
  obtain ⟨rest, hrest⟩ : ∃ rest : List (Addr × Obj), rest = (wl, listOf (strValues ws).toArray kw) :: (L + 1, o1) :: (L + 4, o4) :: (L + 3, o3) :: (pl, PL) :: (nl, NL) :: (cl, CL) :: (120, t120) :: (156, t156) :: (l ++ pls) := ⟨_, rfl⟩
  have wlr : (wl, listOf (strValues ws).toArray kw) ∈ rest := by rw [hrest]; exact .head _
  have N4 : News g L h3 ((it, oi) :: (L + 2, c2) :: (rl, listOf (strValues []).toArray 0) :: rest) := by
    rw [hrest]
    exact pickP N3 [0, 9, 1, 2, 3, 4, 5, 6, 7, 8, 10, 11] (dropP N3 12)
  have offc : ∀ (kr : Nat) (rs : List (Str × Tok)), ∀ p ∈ (it, oi) :: (rl, listOf (strValues rs).toArray kr) :: rest, p.1 ≠ L + 2 := fun kr rs p hp => Hc.off (pre := [(it, oi), (rl, listOf (strValues rs).toArray kr), (wl, listOf (strValues ws).toArray kw), (L + 1, o1), (L + 4, o4), (L + 3, o3), (pl, PL), (nl, NL), (cl, CL), (120, t120), (156, t156)]) rfl hLA hPA p (by rw [hrest] at hp; exact hp)
  have offi : ∀ (kr : Nat) (rs : List (Str × Tok)), ∀ p ∈ (L + 2, c2) :: (rl, listOf (strValues rs).toArray kr) :: rest, p.1 ≠ it := fun kr rs p hp => Hi.off (pre := [(L + 2, c2), (rl, listOf (strValues rs).toArray kr), (wl, listOf (strValues ws).toArray kw), (L + 1, o1), (L + 4, o4), (L + 3, o3), (pl, PL), (nl, NL), (cl, CL), (120, t120), (156, t156)]) rfl hLA hPA p (by rw [hrest] at hp; exact hp)
  have offr : ∀ p ∈ (it, oi) :: (L + 2, c2) :: rest, p.1 ≠ rl := fun p hp => Hr.off (pre := [(it, oi), (L + 2, c2), (wl, listOf (strValues ws).toArray kw), (L + 1, o1), (L + 4, o4), (L + 3, o3), (pl, PL), (nl, NL), (cl, CL), (120, t120), (156, t156)]) rfl hLA hPA p (by rw [hrest] at hp; exact hp)
  refine loopListC (items := (strValues ws).toArray) (by exact hh) (JR rl m ws rest) ?hl F3 N4 d2 hc hd ⟨lk_eq, fun x h => if_neg h, 0, [], rfl, rfl, rfl⟩ (fun e => offi 0 [] (L + 2, c2) (.head _) e.symm) ?hap ?step ?hR (by rfl)
  case hl =>
    rintro i m' news' ⟨_, _, kr, rs, _, _, rfl⟩ h F N
    exact ⟨_, (N _ (.tail _ wlr)).1, rfl, _, rfl⟩
  case hap =>
    rintro i m' news' ⟨_, _, kr, rs, _, _, rfl⟩ p hp
    exact ⟨offi kr rs p (.tail _ hp), offc kr rs p (.tail _ hp)⟩
  case step =>
    rintro i v m' oc news' h' tk o' Qt Et hT hE hv ⟨m1', m2', kr, rs, hrs, hlen, rfl⟩ hoc F N
    have hi : i < ws.length := by have := (Array.getElem?_eq_some_iff.mp hv).1; simpa [strValues] using this
    obtain ⟨⟨x, tx⟩, hxe⟩ : ∃ p, ws[i]'hi = p := ⟨_, rfl⟩
    have ev : v = .str x tx := by
      rw [List.getElem?_toArray, strValues, List.getElem?_map, List.getElem?_eq_getElem hi, hxe] at hv
      exact (Option.some.inj hv).symm
    subst ev
    refine s10_turn G (by walk_at "om") hh (fa := fa) F N hoc (by walk_at "om") m1' (fun e => offr (it, oi) (.head _) e) (fun e => offr (L + 2, c2) (.tail _ (.head _)) e) (fun p hp => offr p (.tail _ (.tail _ hp))) fun h5 tk5 kr5 rs5 hrs5 F5 N5 => ?_
    refine hT _ _ ⟨h5, tk5, m', _, rfl, F5, N5, oc, _, _, rfl, hoc, m1', m2', kr5, rs5, ?_, ?_, rfl⟩
    · rw [hrs5, hrs, List.take_add_one, List.getElem?_eq_getElem hi, hxe, List.map_append, List.foldl_append]; rfl
    · have := congrArg List.length hrs5
      rw [List.length_map] at this
      rw [this]
      unfold insRow
      rw [List.length_append, List.length_cons, List.length_take, List.length_drop, List.length_map]
      walk_at "om"
  case hR =>
    rintro h' tk m' oc v news' ⟨m1', m2', kr, rs, hrs, hlen, rfl⟩ hoc F N
    dsimp only
    rw [List.take_of_length_le (by simp [strValues])] at hrs
    rw [hrest] at N
    exact hQ h' tk m' rl kr rs oc hrs m1' m2' H1 F (pickP N [1, 2, 3, 4, 5, 6, 7, 8, 0, 9, 10] (dropP N 11))
end
end
theorem Again.at36 {M : Model} {A : Around} {env : Env} {Q : Flow → Shared → Prop} {E : Value → Shared → Prop} {s : Shared} (h : Q .next s) : wpAny M A (execs [] env) Q E s := by w_top off; walk1; exact h
section
set_option maxRecDepth 100000
noncomputable def asV (s : Stmt) : Expr := stE s
noncomputable def lam11 : Expr := kwV (asV (lBody.getD 11 (.Pass default)))
noncomputable abbrev lam11Obj (pm : Value) (cn c co : Addr) (ctv : Value) : Obj := kla_obj "<lambda>" "law.<locals>.<lambda>" (lmP lam11) (lmB lam11) (lmS lam11) [("paths", c), ("names", cn)] pm co ctv
noncomputable def codesOf (x : Str) : List Int := x.cps.toList.map fun c => ((c : Nat) : Int)
section
variable {w : World} {mg mb : Str → Option Value} {h₀ : Heap} {A : Around} {R : Result → Shared → Prop} {s : Shared}
set_option maxHeartbeats 2000000
theorem lam11_spec (G : Gnd w mg mb h₀) (st : h₀.StaysIn s.heap) (hroom : A.depth < 900) (hh : A.handled = none) {fn co c cn pl nl pj : Addr} {pm ctv : Value} {o4 o3 : Obj} {t tx : Tok} {k kn j : Nat} {items vs nvs : List Value} {x : Str}
    (ho : s.heap.get? fn = some (lam11Obj pm cn c co ctv)) (hcd : s.heap.CodeRec (.ref co) "law.<locals>.<lambda>") (hc : o4.data = .cell (some (.ref pl))) (hc3 : o3.data = .cell (some (.ref nl)))
    (hn : Led h₀ s.heap [(c, o4), (cn, o3), (pl, listOf items.toArray k), (nl, listOf nvs.toArray kn), (pj, listOf vs.toArray 0)]) (hj : items[j]? = some (.ref pj)) (hjn : nvs[j]? = some (.str x tx)) (hz : items.length ≤ 1000) (hz2 : nvs.length ≤ 1000) (hz3 : vs.length ≤ 1000)
    (hx : x.cps.all (· < 128) = true) (hx2 : x.cps.size ≤ 100)
    (h : ∀ h' tk tp q us t1 kq, Keep [] s.heap h' → s.heap.get? tp = none → s.heap.get? q = none → h'.get? tp = some (seqObj "tuple" #[.int (-(vs.length : Nat)) t1, .ref q] 0) → h'.get? q = some (listOf us.toArray kq) → IntsAre us (codesOf x) → R (.ok (.ret (.ref tp))) { s with heap := h', toks := tk }) :
    codeAny (model PG w) A (.call (.ref fn) ⟨[.int (j : Nat) t], []⟩) R s := by
  refine enterL G st ho hcd (by show A.depth < 1000; walk_at "om") (binds := [("job", .int (j : Nat) t)]) rfl (by exact locs rfl) _ hn ?_ rfl rfl rfl (by decide)
  intro g L' h₁ tk I F N G'
  have X := G'.k
  obtain ⟨me, T⟩ := G'.t
  conv in (eval (lmB lam11) _) => arg 1; whnf
  have es := Eq.refl (lmS lam11)
  conv at es => rhs; whnf
  rw [es]
  have hlt : j < items.length := (List.getElem?_eq_some_iff.mp hj).1
  have hlt2 : j < nvs.length := (List.getElem?_eq_some_iff.mp hjn).1
  iterate 8 walk1
  refine nameX_F N rfl (List.Mem.head _) hc ?_
  iterate 1 walk1
  refine item_litK (v := .ref pj) ⟨_, (N _ (.tail _ (.tail _ (.head _)))).1, rfl, _, rfl⟩ (by walk_at "om") (by simp; walk_at "om") (by rw [Int.toNat_natCast]; exact hj) ?_
  iterate 1 walk1
  refine call_len_list (items := vs.toArray) ⟨_, (N _ (.tail _ (.tail _ (.tail _ (.tail _ (.head _)))))).1, rfl, _, rfl⟩ (by simp; walk_at "om") ?_
  iterate 2 walk1
  (with_reducible rename Fr _ _ _ _ => F3)
  refine ListComp_S (y := x) F3 hx (by with_unfolding_all rfl) (by decide) (by rfl) (by decide) (by rfl) ?_
  iterate 1 walk1
  refine nameX_F N rfl (.tail _ (.head _)) hc3 ?_
  iterate 1 walk1
  refine item_litK (v := .str x tx) ⟨_, (N _ (.tail _ (.tail _ (.tail _ (.head _))))).1, rfl, _, rfl⟩ (by walk_at "om") (by simp; walk_at "om") (by rw [Int.toNat_natCast]; exact hjn) ?_
  refine ⟨_, _, rfl, by exact hh, F3, N, by rw [sizeLine_eq]; walk_at "om", fun s₂ hs₂ => ?_⟩
  obtain ⟨h₂, rfl⟩ := hs₂
  refine CompRest.turns (n := x.cps.size) (fun i ys news2 => IntsAre ys ((x.cps.toList.take i).map fun c => ((c : Nat) : Int)) ∧ news2 = [(c, o4), (cn, o3), (pl, listOf items.toArray k), (nl, listOf nvs.toArray kn), (pj, listOf vs.toArray 0)]) (fun i ys news1 v I2 oI C oC D m₂ h tk E' Qt hT hi jj hP hC hx F N off ne => ?_) (fun ys news jj => ?_) _ _ _ _ (Nat.zero_add _) ⟨.nil, rfl⟩
  · refine hideP fun G9 hG9 => ?_
    obtain ⟨cc, u, hcc, rfl⟩ := hP
    refine hG9 ?_
    clear hG9
    obtain ⟨hl, rfl⟩ := jj
    iterate 8 walk1
    have hcl : x.cps.toList[i]? = some cc := by simpa using hcc
    exact hT _ _ ⟨_, _, _, rfl, F, N, off, trivial, by rw [List.take_add_one, hcl, List.map_append]; exact IntsAre.append hl (.cons _ _ .nil), rfl⟩
  · obtain ⟨hl, rfl⟩ := jj
    rw [List.take_of_length_le (by rw [Array.length_toList]; exact Nat.le_refl _)] at hl
    intro D h5 tk5 F5 N5 off5
    iterate 1 walk1
    refine wpAny_newTuple ?_ (by simp [sizeLine_eq])
    rw [List.size_toArray]
    obtain ⟨F6, N6, l6⟩ := ks_newsPush (s := { s with heap := h5 }) (o := seqObj "tuple" #[.int (-(vs.length : Nat)) (tk + 1 + 1), .ref D] 0) F5 N5 rfl (Heap.get?_push_at rfl rfl) (fun b o e => Heap.get?_push_of_some _ e)
    have fD := N6 _ (.tail _ (.head _))
    have fT := N6 _ (.head _)
    refine h _ _ _ D ys _ _ (I.keepAll hn F6 fun p hp => (N6 p (.tail _ (.tail _ hp))).1) (I.fresh fT.2.2 fun q => ?_) (I.fresh fD.2.2 fun q => ?_) fT.1 fD.1 hl
    · obtain ⟨p, hp, e⟩ := List.mem_map.mp q
      exact Nat.ne_of_lt (l6 p (.tail _ hp)) e
    · obtain ⟨p, hp, e⟩ := List.mem_map.mp q
      exact off1_mem off5 p hp e
end
end
section
open PySem.SeqAt
set_option maxRecDepth 100000
theorem all_eq {ds es : List Int} (h : ds.length = es.length) : ((List.range ds.length).all fun j => ds.getD j 0 == es.getD j 0) = decide (ds = es) := by
  rw [Bool.eq_iff_iff, List.all_eq_true, decide_eq_true_eq]
  constructor
  · intro q
    refine List.ext_getElem h fun i h1 h2 => ?_
    have := q i (List.mem_range.mpr h1)
    simpa [List.getD_eq_getElem?_getD, List.getElem?_eq_getElem h1, List.getElem?_eq_getElem h2] using this
  · rintro rfl j _
    exact beq_self_eq_true _
section
variable {prog : Program} {w : World} {A : Around} {E : Value → Shared → Prop} {s : Shared}
theorem eqBool_same {l : Addr} {Q : Bool → Shared → Prop} (h : Q true s) : wpAny (model prog w) A (eqBool (.ref l) (.ref l)) Q E s := by
  unfold eqBool
  refine wpAny_holding ?_
  rw [if_pos (beq_self_eq_true _)]
  exact wpAny_bind (wpAny_rule (wpAny_pure h))
theorem ints_inj {vs : List Value} {ds es : List Int} (a : IntsAre vs ds) (b : IntsAre vs es) : ds = es := by
  refine List.ext_getElem (a.length.symm.trans b.length) fun i h1 h2 => ?_
  obtain ⟨t1, e1⟩ := a.get i _ (List.getElem?_eq_getElem h1)
  obtain ⟨t2, e2⟩ := b.get i _ (List.getElem?_eq_getElem h2)
  rw [e1] at e2
  injection e2 with e3
  injection e3
theorem eq_lists {l b : Addr} {vs us : List Value} {ds es : List Int} {n n2 : Nat} (hl : s.heap.get? l = some (listOf vs.toArray n)) (hb : s.heap.get? b = some (listOf us.toArray n2)) (hv : IntsAre vs ds) (hu : IntsAre us es) (hr : A.units < cLine) : EqAt A s (.ref l) (.ref b) (decide (ds = es)) := by
  have lv : vs.length = ds.length := hv.length
  have lu : us.length = es.length := hu.length
  by_cases hlb : l = b
  · subst hlb
    rw [hl] at hb
    have e := Option.some.inj hb
    have e2 : vs.toArray = us.toArray := by injection e with _ _ e3 _; injection e3
    have e4 : vs = us := by simpa using congrArg Array.toList e2
    subst e4
    rw [decide_eq_true (ints_inj hv hu)]
    exact fun prog w E Q h => eqBool_same h
  by_cases h : ds.length = es.length
  · rw [← all_eq h]
    have := EqAt.of_refs hlb <| RcAt.lists (A := A) (e := fun j => ds.getD j 0 == es.getD j 0) ⟨_, hl, rfl, _, rfl⟩ ⟨_, hb, rfl, _, rfl⟩ (by simp; (first | lia | omega)) hr (fun j h1 h2 => ?_)
    · rw [show vs.toArray.size = ds.length by simp [lv]] at this
      exact this
    · simp only [List.size_toArray] at h1 h2
      obtain ⟨t1, e1⟩ := int_at' hv (i := j) (by (first | lia | omega))
      obtain ⟨t2, e2⟩ := int_at' hu (i := j) (by (first | lia | omega))
      rw [List.getElem?_eq_getElem h1] at e1
      rw [List.getElem?_eq_getElem h2] at e2
      rw [List.getElem_toArray, List.getElem_toArray, Option.some.inj e1, Option.some.inj e2]
      exact EqAt.int_int _ _ _ _
  · rw [decide_eq_false (fun e => h (congrArg List.length e))]
    exact EqAt.of_refs hlb <| RcAt.lists_lengths ⟨_, hl, rfl, _, rfl⟩ ⟨_, hb, rfl, _, rfl⟩ (by simp; (first | lia | omega)) hr
theorem eqBool_lists {l b : Addr} {vs us : List Value} {ds es : List Int} {n n2 : Nat} {Q : Bool → Shared → Prop} (hl : s.heap.get? l = some (listOf vs.toArray n)) (hb : s.heap.get? b = some (listOf us.toArray n2)) (hv : IntsAre vs ds) (hu : IntsAre us es) (hr : A.units < cLine)
    (h : Q (decide (ds = es)) s) : wpAny (model prog w) A (eqBool (.ref l) (.ref b)) Q E s := eq_lists hl hb hv hu hr prog w _ _ h
noncomputable def tupLt (a b : Int) (ds es : List Int) : Bool := if a = b then lexI ds es else decide (a < b)
theorem key_tup_lt {x y q q' : Addr} {vs us : List Value} {ds es : List Int} {n n2 : Nat} {a b : Int} {ta tb : Tok} {Q : Bool → Shared → Prop} (hx : s.heap.get? x = some (seqObj "tuple" #[.int a ta, .ref q] 0)) (hy : s.heap.get? y = some (seqObj "tuple" #[.int b tb, .ref q'] 0))
    (hl : s.heap.get? q = some (listOf vs.toArray n)) (hb : s.heap.get? q' = some (listOf us.toArray n2)) (hv : IntsAre vs ds) (hu : IntsAre us es)
    (hr : A.units < cLine) (h : Q (tupLt a b ds es) s) : wpAny (model prog w) A (keyLt' (tuples' true) (.ref x) (.ref y)) Q E s := by
  refine kat_lt hx rfl hy rfl ?_
  show KatLex prog w A true (decide (2 < 2)) Q [(.int a ta, .int b tb), (.ref q, .ref q')] 0 s
  refine kat_cons (wpAny_eqBool_int ?_)
  unfold tupLt at h
  by_cases e : a = b
  · rw [if_pos e] at h
    rw [e, beq_self_eq_true]
    refine kat_yes (kat_cons ?_)
    refine eqBool_lists hl hb hv hu hr ?_
    by_cases e2 : ds = es
    · rw [decide_eq_true e2]
      refine kat_yes (kat_nil ?_)
      rw [e2, lexI_irr] at h
      exact h
    · rw [decide_eq_false e2]
      refine kat_no ?_
      show wpAny (model prog w) A (oneLt' false (.ref q) (.ref q')) Q _ s
      refine kat_one _ _ ?_
      have hb2 : W.BoolBack Q (.bool (lexI ds es)) s := h
      have c1 : wpAny (model prog w) A (call (.builtin "list.__lt__") [.ref q, .ref q']) (fun v s' => v ≠ .notImplemented ∧ W.BoolBack Q v s') (fun _ _ => False) s := call_list_lt hl hb hv hu ⟨(by intro z; cases z), hb2⟩
      exact wpAny_richCompare_same_room (T := "list") (id := "list.__lt__") (op := .Lt) ⟨_, hl, rfl⟩ ⟨_, hb, rfl⟩ PySem.F.slot_list_lt c1 hr
  · rw [if_neg e] at h
    rw [beq_false_of_ne e]
    exact kat_no (oneLt_int h)
end
end
section
set_option maxRecDepth 100000
noncomputable def plen (b : Nat → Nat) (j : Nat) : Int := (((pths b 8).getD j []).length : Nat)
noncomputable def rowLt (b : Nat → Nat) (i j : Nat) : Bool := tupLt (-(plen b i)) (-(plen b j)) (codesOf (nms.getD i Str.empty)) (codesOf (nms.getD j Str.empty))
theorem nms_codes_ne : ∀ i < 8, ∀ j < 8, i ≠ j → codesOf (nms.getD i Str.empty) ≠ codesOf (nms.getD j Str.empty) := by decide +kernel
theorem rowLt_ok (b : Nat → Nat) : LtOk (rowLt b) 8 where
  irr i _ := by unfold rowLt tupLt; rw [if_pos rfl]; exact lexI_irr _
  trans i j k _ _ _ h1 h2 := by
    unfold rowLt tupLt at h1 h2 ⊢
    by_cases e1 : -(plen b i) = -(plen b j)
    · rw [if_pos e1] at h1
      by_cases e2 : -(plen b j) = -(plen b k)
      · rw [if_pos e2] at h2
        rw [if_pos (e1.trans e2)]
        exact lexI_trans h1 h2
      · rw [if_neg e2] at h2
        rw [if_neg (by rw [e1]; exact e2), e1]; exact h2
    · rw [if_neg e1] at h1
      by_cases e2 : -(plen b j) = -(plen b k)
      · rw [if_neg (by rw [← e2]; exact e1), ← e2]; exact h1
      · rw [if_neg e2] at h2
        have a1 := of_decide_eq_true h1
        have a2 := of_decide_eq_true h2
        rw [if_neg (by walk_at "om")]
        exact decide_eq_true (by walk_at "om")
  total i j hi hj h e := by
    unfold rowLt tupLt at e ⊢
    by_cases e1 : -(plen b i) = -(plen b j)
    · rw [if_pos e1] at e
      rw [if_pos e1.symm]
      exact lexI_total (nms_codes_ne i hi j hj h) e
    · rw [if_neg e1] at e
      have a1 := of_decide_eq_false e
      rw [if_neg (fun q => e1 q.symm)]
      exact decide_eq_true (by walk_at "om")
theorem tups_of {h : Heap} : ∀ (ks : List Value), (∀ v ∈ ks, ∃ tp a t1 q, v = .ref tp ∧ h.get? tp = some (seqObj "tuple" #[.int a t1, q] 0)) → ∃ fs, KatTups h ks fs ∧ fs.length = ks.length ∧ ∀ v ∈ fs, ∃ a t, v = .int a t
  | [], _ => ⟨[], trivial, rfl, fun v hv => by cases hv⟩
  | v :: r, H => by
    refine hideP fun G9 hG9 => ?_
    obtain ⟨tp, a, t1, q, rfl, e⟩ := H v (.head _)
    refine hG9 ?_
    clear hG9
    refine hideP fun G9 hG9 => ?_
    obtain ⟨fs, h1, h2, h3⟩ := tups_of r fun v hv => H v (.tail _ hv)
    refine hG9 ?_
    clear hG9
    refine ⟨.int a t1 :: fs, KatTups.cons e rfl rfl rfl h1, by simp [h2], fun v hv => ?_⟩
    rcases List.mem_cons.mp hv with rfl | hv
    · exact ⟨a, t1, rfl⟩
    · exact h3 v hv
theorem kind_tups {prog : Program} {w : World} {A : Around} {E : Value → Shared → Prop} {s : Shared} {ks : List Value} {R : SortKind → Shared → Prop} (h2 : 0 < ks.length) (hT : ∀ v ∈ ks, ∃ tp a t1 q, v = .ref tp ∧ s.heap.get? tp = some (seqObj "tuple" #[.int a t1, q] 0)) (h : R (tuples' true) s) : wpAny (model prog w) A (keyKind' ks.toArray) R E s := by
  refine hideP fun G9 hG9 => ?_
  obtain ⟨fs, h1, hl, h3⟩ := tups_of ks hT
  refine hG9 ?_
  clear hG9
  refine kat_kind (T := .type "int") h1 (by walk_at "om") (fun v hv => ?_) (by decide) ?_
  · obtain ⟨a, t, rfl⟩ := h3 v hv
    exact Looks.of_pure rfl
  · exact h
noncomputable def TupsOk (b : Nat → Nat) (i : Nat) (ks : List Value) (tups : List (Addr × Obj)) : Prop :=
  ks.length = i ∧ ∀ j, j < i → ∃ tp q us t1 kq, ks[j]? = some (.ref tp) ∧ (tp, seqObj "tuple" #[.int (-(plen b j)) t1, .ref q] 0) ∈ tups ∧ (q, listOf us.toArray kq) ∈ tups ∧ IntsAre us (codesOf (nms.getD j Str.empty))
section
variable {w : World} {mg mb : Str → Option Value} {g : Heap} {A : Around} {s : Shared} {E : Value → Shared → Prop} {Q : Value → Shared → Prop}
set_option maxHeartbeats 4000000
theorem sort11 (G : Gnd w mg mb g) (hroom : A.depth < 500) (hh : A.handled = none) (hu : A.units < 8000) {L r fn co cn c pl nl : Addr} {pm ctv : Value} {oc o4 o3 : Obj} {vs : Array Value} {tq t u v : Tok} {m : Str → Option Value} {NL pls : List (Addr × Obj)} {nmt : List (Str × Tok)} {k kn : Nat} {b : Nat → Nat}
    (F : Fr g L s.heap m) (N : News g L s.heap NL) (hr : IsRange s.heap r 0 (8 : Nat) 1 t u v)
    (ifn : (fn, lam11Obj pm cn c co ctv) ∈ NL) (ico : (co, oc) ∈ NL) (hoc : oc.data = .fields vs) (hvs : vs[1]? = some (Value.str "law.<locals>.<lambda>" tq)) (i4 : (c, o4) ∈ NL) (i3 : (cn, o3) ∈ NL) (d4 : o4.data = .cell (some (.ref pl))) (d3 : o3.data = .cell (some (.ref nl)))
    (ipl : (pl, listOf (pls.map fun p => Value.ref p.1).toArray k) ∈ NL) (inl : (nl, listOf (strValues nmt).toArray kn) ∈ NL) (ips : ∀ p ∈ pls, p ∈ NL) (hps : PathsAre pls (pths b 8)) (hnm : nmt.map (·.1) = nms)
    (h : ∀ D h' tk out ec (js : List Nat), List.Perm js (List.range 8) → List.Pairwise (fun i j => rowLt b i j = true) js → IntsAre out (js.map fun j => ((j : Nat) : Int)) → Fr g L h' m → News g L h' ((D, listOf out.toArray ec) :: NL) → (∀ p ∈ NL, p.1 ≠ D) → Q (.ref D) { s with heap := h', toks := tk }) :
    wpAny (model PG w) A (call (.builtin "sorted") [.ref r] [(Str.ofString "key", .ref fn)]) Q E s := by
  have lps : pls.length = 8 := by rw [hps.length, pths_len]
  have lnm : nmt.length = 8 := by have := congrArg List.length hnm; rw [List.length_map] at this; rw [this]; rfl
  have pat : ∀ j, j < 8 → ∃ p vs, pls[j]? = some p ∧ p.2 = listOf vs.toArray 0 ∧ IntsAre vs ((pths b 8).getD j []) := fun j hj => hps.at j (by rw [pths_len]; exact hj)
  refine sortedJ (n := 8) (κ := tuples' true) (lt := rowLt b) (fun D i ks news => (∀ p ∈ news, p.1 ≠ D) ∧ ∃ tups, news = tups ++ NL ∧ TupsOk b i ks tups) hh F N hr (by decide) (by decide) (by decide) (by decide) (fun D hD => ⟨fun p hp => Nat.ne_of_lt (hD p hp), [], rfl, rfl, fun j hj => absurd hj (Nat.not_lt_zero _)⟩) (rowLt_ok b) ?step ?off ?kind ?ask ?fin
  case step =>
    rintro kS D e1 i t ks news e s' hi ⟨hoff, tups, rfl, hl, hk⟩ ltD hoS F N
    have N' : News g L s'.heap NL := fun p hp => N p (.tail _ (.tail _ (List.mem_append_right _ hp)))
    refine hideP fun G9 hG9 => ?_
    obtain ⟨p, us, ep, eo, hus⟩ := pat i hi
    refine hG9 ?_
    clear hG9
    have hpm := ips p (List.mem_of_getElem? ep)
    have hin : i < nmt.length := by walk_at "om"
    have enm : nms.getD i Str.empty = (nmt[i]).1 := by
      rw [← hnm, List.getD_eq_getElem?_getD, List.getElem?_map, List.getElem?_eq_getElem hin]; rfl
    have hx := nms_ok (nmt[i]).1 (by rw [← hnm]; exact List.mem_map_of_mem (List.getElem_mem hin))
    have lus : us.length = ((pths b 8).getD i []).length := hus.length
    have lus8 : ((pths b 8).getD i []).length ≤ 8 := by
      rw [List.getD_eq_getElem?_getD, List.getElem?_eq_getElem (by rw [pths_len]; exact hi), Option.getD_some]
      exact pths_le (List.getElem_mem _)
    refine wpAny_call (lam11_spec G (by exact F.keep) (by show A.depth < 900; walk_at "om") (by exact hh) (pj := p.1) (vs := us) (x := (nmt[i]).1) (tx := (nmt[i]).2) (N' _ ifn).1 ⟨co, oc, _, tq, rfl, (N' _ ico).1, hoc, hvs⟩ d4 d3 (List.forall_mem_cons.mpr ⟨⟨(N' _ i4).1, (N' _ i4).2.2⟩, List.forall_mem_cons.mpr ⟨⟨(N' _ i3).1, (N' _ i3).2.2⟩, List.forall_mem_cons.mpr ⟨⟨(N' _ ipl).1, (N' _ ipl).2.2⟩, List.forall_mem_cons.mpr ⟨⟨(N' _ inl).1, (N' _ inl).2.2⟩, List.forall_mem_cons.mpr ⟨⟨by rw [← eo]; exact (N' _ hpm).1, (N' _ hpm).2.2⟩, List.forall_mem_nil _⟩⟩⟩⟩⟩) (by rw [List.getElem?_map, ep]; rfl) (by simp [strValues, hin]) (by simp; walk_at "om") (by simp [strValues]; walk_at "om") (by walk_at "om") hx.1 (by walk_at "om") fun h' tk tp q us2 t1 kq kb f1 f2 g1 g2 hI => ?_)
    have ne_of : ∀ {a b : Addr} {o : Obj}, s'.heap.get? a = none → s'.heap.get? b = some o → b ≠ a := fun h1 h2 e => by rw [e, h1] at h2; cases h2
    refine hideP fun G9 hG9 => ?_
    obtain ⟨oL, _, _, eL, _⟩ := F.ns
    refine hG9 ?_
    clear hG9
    have gn : ∀ a, s'.heap.get? a = none → g.get? a = none := fun a ha => by
      cases z : g.get? a with
      | none => rfl
      | some o => rw [F.keep _ _ z] at ha; cases ha
    refine ⟨h', tk, (tp, seqObj "tuple" #[.int (-(plen b i)) t1, .ref q] 0) :: (q, listOf us2.toArray kq) :: (tups ++ NL), rfl, F.kept (Keep.all kb), ?_, ?_, ?_, (tp, seqObj "tuple" #[.int (-(plen b i)) t1, .ref q] 0) :: (q, listOf us2.toArray kq) :: tups, rfl, ?_, ?_⟩
    · intro p hp
      rcases List.mem_cons.mp hp with rfl | hp
      · exact N.grown (Keep.all kb) _ (.head _)
      rcases List.mem_cons.mp hp with rfl | hp
      · exact N.grown (Keep.all kb) _ (.tail _ (.head _))
      rcases List.mem_cons.mp hp with rfl | hp
      · exact ⟨by rw [lus] at g1; exact g1, (ne_of f1 eL).symm, gn _ f1⟩
      rcases List.mem_cons.mp hp with rfl | hp
      · exact ⟨g2, (ne_of f2 eL).symm, gn _ f2⟩
      · exact N.grown (Keep.all kb) _ (.tail _ (.tail _ hp))
    · intro p hp
      rcases List.mem_cons.mp hp with rfl | hp
      · exact (ne_of f1 (N _ (.head _)).1).symm
      rcases List.mem_cons.mp hp with rfl | hp
      · exact (ne_of f2 (N _ (.head _)).1).symm
      · exact hoS p hp
    · intro p hp
      rcases List.mem_cons.mp hp with rfl | hp
      · exact (ne_of f1 (N _ (.tail _ (.head _))).1).symm
      rcases List.mem_cons.mp hp with rfl | hp
      · exact (ne_of f2 (N _ (.tail _ (.head _))).1).symm
      · exact hoff p hp
    · rw [List.length_append, hl]; rfl
    · intro j hj
      by_cases e : j = i
      · subst e
        exact ⟨tp, q, us2, t1, kq, by rw [List.getElem?_append_right (by walk_at "om"), hl, Nat.sub_self]; rfl, .head _, .tail _ (.head _), by rw [enm]; exact hI⟩
      · refine hideP fun G9 hG9 => ?_
        obtain ⟨tp', q', us', t1', kq', a1, a2, a3, a4⟩ := hk j (by walk_at "om")
        refine hG9 ?_
        clear hG9
        exact ⟨tp', q', us', t1', kq', by rw [List.getElem?_append_left (by walk_at "om")]; exact a1, .tail _ (.tail _ a2), .tail _ (.tail _ a3), a4⟩
  case off =>
    rintro D i ks news ⟨hoff, _⟩ p hp
    exact hoff p hp
  case kind =>
    rintro D ks news s' R ⟨_, tups, rfl, hl, hk⟩ N hR
    refine kind_tups (by walk_at "om") (fun v hv => ?_) hR
    obtain ⟨j, hj, ej⟩ := List.getElem_of_mem hv
    refine hideP fun G9 hG9 => ?_
    obtain ⟨tp, q, us, t1, kq, a1, a2, a3, a4⟩ := hk j (by walk_at "om")
    refine hG9 ?_
    clear hG9
    rw [List.getElem?_eq_getElem hj, ej] at a1
    exact ⟨tp, _, t1, .ref q, Option.some.inj a1, (N _ (List.mem_append_left _ a2)).1⟩
  case ask =>
    rintro D ks news s' R i j ⟨_, tups, rfl, hl, hk⟩ N hi hj hR
    refine hideP fun G9 hG9 => ?_
    obtain ⟨tp, q, us, t1, kq, a1, a2, a3, a4⟩ := hk i (by walk_at "om")
    refine hG9 ?_
    clear hG9
    refine hideP fun G9 hG9 => ?_
    obtain ⟨tp', q', us', t1', kq', b1, b2, b3, b4⟩ := hk j (by walk_at "om")
    refine hG9 ?_
    clear hG9
    rw [List.getD_eq_getElem?_getD, List.getD_eq_getElem?_getD, a1, b1]
    exact key_tup_lt (N _ (List.mem_append_left _ a2)).1 (N _ (List.mem_append_left _ b2)).1 (N _ (List.mem_append_left _ a3)).1 (N _ (List.mem_append_left _ b3)).1 a4 b4 (by show A.units + 1 + 1 < 9900; walk_at "om") hR
  case fin =>
    rintro D kS ec ek ks news h9 tk9 out js ⟨hoff, tups, rfl, _⟩ hperm hpair hout F9 N9 ltD
    refine h D h9 tk9 out ec js hperm hpair hout F9 (fun p hp => ?_) fun p hp => hoff p (List.mem_append_right _ hp)
    rcases List.mem_cons.mp hp with rfl | hp
    · exact N9 _ (.head _)
    · exact N9 _ (.tail _ (.tail _ (List.mem_append_right _ hp)))
end
end
theorem Again.at37 {M : Model} {A : Around} {env : Env} {Q : Flow → Shared → Prop} {E : Value → Shared → Prop} {s : Shared} (h : Q .next s) : wpAny M A (execs [] env) Q E s := by w_top off; walk1; exact h
section
set_option maxRecDepth 100000
theorem Apart.pushNe {A LA PA : List Addr} (H : Apart A LA PA) {pre l pls : List (Addr × Obj)} {q : Addr} (h1 : pre.map (·.1) = A) (h2 : l.map (·.1) = LA) (h3 : pls.map (·.1) = PA) (h : ∀ p ∈ pre ++ (l ++ pls), p.1 ≠ q) : Apart (q :: A) LA PA := by
  have ha : ∀ a ∈ A, a ≠ q := fun a ha => by
    rw [← h1] at ha
    obtain ⟨p, hp, e⟩ := List.mem_map.mp ha
    exact e ▸ h p (List.mem_append_left _ hp)
  have hl : q ∉ LA := fun hq => by
    rw [← h2] at hq
    obtain ⟨p, hp, e⟩ := List.mem_map.mp hq
    exact h p (List.mem_append_right _ (List.mem_append_left _ hp)) e
  have hpq : q ∉ PA := fun hq => by
    rw [← h3] at hq
    obtain ⟨p, hp, e⟩ := List.mem_map.mp hq
    exact h p (List.mem_append_right _ (List.mem_append_right _ hp)) e
  refine ⟨List.pairwise_cons.mpr ⟨fun a h => (ha a h).symm, H.nd⟩, fun a h => ?_, fun a h => ?_, H.pl⟩
  · rcases List.mem_cons.mp h with rfl | h
    · exact hl
    · exact H.al a h
  · rcases List.mem_cons.mp h with rfl | h
    · exact hpq
    · exact H.ap a h
section
variable {w : World} {mg mb : Str → Option Value} {g : Heap} {A : Around} {s : Shared} {E : Value → Shared → Prop} {Q : Flow → Shared → Prop}
set_option maxHeartbeats 4000000
theorem law_s11 (G : Gnd w mg mb g) (hroom : A.depth < 500) (hh : A.handled = none) (hu : A.units < 8000) (C2 : CodeHd g 158 156) {L fa pl nl cl wl rl : Addr} {o1 o3 o4 c2 CL t120 W R : Obj} {m : Str → Option Value} {nmt : List (Str × Tok)} {kn kp : Nat} {l pls : List (Addr × Obj)} {LA PA : List Addr} {b : Nat → Nat} {co7 : Addr}
   (F : Fr g L s.heap m) (N : News g L s.heap ((rl, R) :: (wl, W) :: (L + 1, o1) :: (L + 4, o4) :: (L + 3, o3) :: (pl, listOf (pls.map fun p => Value.ref p.1).toArray kp) :: (nl, listOf (strValues nmt).toArray kn) :: (cl, CL) :: (L + 2, c2) :: (120, t120) :: (156, tabObj (tb7 co7)) :: (l ++ pls)))
   (H : Apart [rl, wl, L + 1, L + 4, L + 3, pl, nl, cl, L + 2, 120, 156] LA PA) (hLA : l.map (·.1) = LA) (hPA : pls.map (·.1) = PA)
   (d4 : o4.data = .cell (some (.ref pl))) (d3 : o3.data = .cell (some (.ref nl)))
   (hps : PathsAre pls (pths b 8)) (hnm : nmt.map (·.1) = nms)
   (hQ : ∀ h' tk m' (D : Addr) (ec : Nat) (out : List Value) (js : List Nat) (tb' : Array Value), List.Perm js (List.range 8) → List.Pairwise (fun i j => rowLt b i j = true) js → IntsAre out (js.map fun j => ((j : Nat) : Int)) →
      Apart [D, rl, wl, L + 1, L + 4, L + 3, pl, nl, cl, L + 2, 120, 156] LA PA → m' "order" = some (.ref D) → (∀ x : Str, x ≠ Str.ofString "order" → m' x = m x) → Fr g L h' m' →
      News g L h' ((D, listOf out.toArray ec) :: (rl, R) :: (wl, W) :: (L + 1, o1) :: (L + 4, o4) :: (L + 3, o3) :: (pl, listOf (pls.map fun p => Value.ref p.1).toArray kp) :: (nl, listOf (strValues nmt).toArray kn) :: (cl, CL) :: (L + 2, c2) :: (120, t120) :: (156, tabObj tb') :: (l ++ pls)) →
      wpAny (model PG w) A (execs (lBody.drop 12) (lEnv L fa)) Q E { s with heap := h', toks := tk }) :
   wpAny (model PG w) A (execs (lBody.drop 11) (lEnv L fa)) Q E s := by
  have XK := G.k
  obtain ⟨me, TT⟩ := G.t
  have e0 := Eq.refl (lBody.drop 11)
  conv at e0 => rhs; whnf
  rw [e0]
  clear e0
  iterate 12 walk1
  refine range1_rows F N fun h3 tk3 t3 u3 v3 hr3 F3 N3 k3 => ?_
  have N3r := with_new F N3 hr3
  have l3 := lt_new N
  clear k3
  iterate 2 walk1
  refine kla_eval rfl ?_
  have H3 : Apart [s.heap.objs.size, rl, wl, L + 1, L + 4, L + 3, pl, nl, cl, L + 2, 120, 156] LA PA :=
    H.push (pre := [(rl, R), (wl, W), (L + 1, o1), (L + 4, o4), (L + 3, o3), (pl, listOf (pls.map fun p => Value.ref p.1).toArray kp), (nl, listOf (strValues nmt).toArray kn), (cl, CL), (L + 2, c2), (120, t120), (156, tabObj (tb7 co7))]) rfl hLA hPA l3
  refine kla_nest F3 N3r TT C2 rfl (ps := tb7 co7) (H3.updF (pre := [_, _, _, _, _, _, _, _, _, _, _]) (post := []) hLA hPA ?hx) (by kn_triples) (by kn_among) rfl fun fn co oc vs tq ctv h8 tk8 F8 N8 hoc hvs l8 l9 => ?_
  case hx => exact ⟨[], _, rfl, rfl⟩
  obtain ⟨tb, N8'⟩ : ∃ tb, News g L h8 ((fn, lam11Obj ((mg (Str.ofString "__name__")).getD Value.none) (L + 3) (L + 4) co ctv) :: (co, oc) :: (s.heap.objs.size, ({ cls := .type "range", dict := none, data := .fields #[.int 0 t3, .int 8 u3, .int 1 v3], slots := #[] } : Obj)) :: (rl, R) :: (wl, W) :: (L + 1, o1) :: (L + 4, o4) :: (L + 3, o3) :: (pl, listOf (pls.map fun p => Value.ref p.1).toArray kp) :: (nl, listOf (strValues nmt).toArray kn) :: (cl, CL) :: (L + 2, c2) :: (120, t120) :: (156, tabObj tb) :: (l ++ pls)) := ⟨_, by with_unfolding_all exact N8⟩
  replace hvs : vs[1]? = some (Value.str "law.<locals>.<lambda>" tq) := by with_unfolding_all exact hvs
  clear N8 N3r F3 F N
  iterate 1 walk1
  show wpAny _ _ (call (.builtin "sorted") [.ref s.heap.objs.size] [(Str.ofString "key", .ref fn)]) _ _ _
  have hrn := (N8' _ (.tail _ (.tail _ (.head _)))).1
  refine sort11 G hroom hh hu F8 N8' hrn (.head _) (.tail _ (.head _)) hoc hvs (by k_mem) (by k_mem) d4 d3 (by k_mem) (by k_mem) (fun p hp => by simp [hp]) hps hnm fun D h9 tk9 out ec js hperm hpair hout F9 N9 off9 => ?_
  have H9 : Apart [D, rl, wl, L + 1, L + 4, L + 3, pl, nl, cl, L + 2, 120, 156] LA PA :=
    H.pushNe (pre := [(rl, R), (wl, W), (L + 1, o1), (L + 4, o4), (L + 3, o3), (pl, listOf (pls.map fun p => Value.ref p.1).toArray kp), (nl, listOf (strValues nmt).toArray kn), (cl, CL), (L + 2, c2), (120, t120), (156, tabObj tb)]) rfl hLA hPA fun p hp => off9 p (.tail _ (.tail _ (.tail _ hp)))
  have N10 : News g L h9 ((D, listOf out.toArray ec) :: (rl, R) :: (wl, W) :: (L + 1, o1) :: (L + 4, o4) :: (L + 3, o3) :: (pl, listOf (pls.map fun p => Value.ref p.1).toArray kp) :: (nl, listOf (strValues nmt).toArray kn) :: (cl, CL) :: (L + 2, c2) :: (120, t120) :: (156, tabObj tb) :: (l ++ pls)) := fun p hp => N9 p (by
    rcases List.mem_cons.mp hp with hp | hp
    · rw [hp]; exact .head _
    · exact .tail _ (.tail _ (.tail _ (.tail _ hp))))
  clear N9 N8'
  iterate 1 walk1
  (with_reducible rename Fr _ _ _ _ => F11)
  (with_reducible rename News _ _ _ _ => N11)
  exact hQ _ _ _ D ec out js tb hperm hpair hout H9 lk_eq (fun x h => if_neg h) F11 N11
end
end
theorem Again.at38 {M : Model} {A : Around} {env : Env} {Q : Flow → Shared → Prop} {E : Value → Shared → Prop} {s : Shared} (h : Q .next s) : wpAny M A (execs [] env) Q E s := by w_top off; walk1; exact h
section
set_option maxRecDepth 100000
noncomputable def dotN (b : Nat → Nat) (j : Nat) : Str := ⟨(List.replicate (((pths b 8).getD j []).length + 1) 46 ++ ((nms.getD j Str.empty).cps.toList)).toArray⟩
theorem dotN_ok (b : Nat → Nat) {j : Nat} (hj : j < 8) : PyData.strOk (dotN b j) = true := by
  have hx : (nms.getD j Str.empty).cps.all (· < 128) = true := by
    have hl : j < nms.length := hj
    rw [List.getD_eq_getElem?_getD, List.getElem?_eq_getElem hl, Option.getD_some]
    exact (nms_ok _ (List.getElem_mem hl)).1
  unfold PyData.strOk dotN
  rw [← Array.all_toList] at hx ⊢
  rw [List.toList_toArray, List.all_append, Bool.and_eq_true]
  refine ⟨?_, List.all_eq_true.mpr fun c hc => ?_⟩
  · rw [List.all_eq_true]
    intro c hc
    rw [List.eq_of_mem_replicate hc]
    decide
  · have := List.all_eq_true.mp hx c hc
    simp only [decide_eq_true_eq] at this ⊢
    walk_at "om"
section
variable {w : World} {mg mb : Str → Option Value} {g : Heap} {A : Around} {s : Shared} {E : Value → Shared → Prop} {Q : Flow → Shared → Prop}
set_option maxHeartbeats 4000000
theorem law_s12 (G : Gnd w mg mb g) (hroom : A.depth < 500) (hh : A.handled = none) (hu : A.units < 8000) {L fa pl nl cl wl rl D : Addr} {o1 o3 o4 c2 CL t120 t156 W : Obj} {m : Str → Option Value} {nmt rs : List (Str × Tok)} {kn kp ec kr : Nat} {l pls : List (Addr × Obj)} {b : Nat → Nat} {out : List Value} {js : List Nat}
   (F : Fr g L s.heap m) (N : News g L s.heap ((D, listOf out.toArray ec) :: (rl, listOf (strValues rs).toArray kr) :: (wl, W) :: (L + 1, o1) :: (L + 4, o4) :: (L + 3, o3) :: (pl, listOf (pls.map fun p => Value.ref p.1).toArray kp) :: (nl, listOf (strValues nmt).toArray kn) :: (cl, CL) :: (L + 2, c2) :: (120, t120) :: (156, t156) :: (l ++ pls)))
   (d4 : o4.data = .cell (some (.ref pl))) (d3 : o3.data = .cell (some (.ref nl)))
   (hps : PathsAre pls (pths b 8)) (hnm : nmt.map (·.1) = nms) (hout : IntsAre out (js.map fun j => ((j : Nat) : Int))) (hperm : js.Perm (List.range 8))
   (m1 : m "row" = some (.ref rl)) (m2 : m "order" = some (.ref D))
   (hrow : rs.map (·.1) = js.map (dotN b))
   (hQ : ∀ h' tk, Fr g L h' m → News g L h' ((D, listOf out.toArray ec) :: (rl, listOf (strValues rs).toArray kr) :: (wl, W) :: (L + 1, o1) :: (L + 4, o4) :: (L + 3, o3) :: (pl, listOf (pls.map fun p => Value.ref p.1).toArray kp) :: (nl, listOf (strValues nmt).toArray kn) :: (cl, CL) :: (L + 2, c2) :: (120, t120) :: (156, t156) :: (l ++ pls)) →
      wpAny (model PG w) A (execs (lBody.drop 13) (lEnv L fa)) Q E { s with heap := h', toks := tk }) :
   wpAny (model PG w) A (execs (lBody.drop 12) (lEnv L fa)) Q E s := by
  have XK := G.k
  obtain ⟨me, TT⟩ := G.t
  have lps : pls.length = 8 := by rw [hps.length, pths_len]
  have lnm : nmt.length = 8 := by have := congrArg List.length hnm; rw [List.length_map] at this; rw [this]; rfl
  have ljs : js.length = 8 := by rw [hperm.length_eq, List.length_range]
  have lout : out.length = 8 := by rw [hout.length, List.length_map, ljs]
  have pat : ∀ j, j < 8 → ∃ p vs, pls[j]? = some p ∧ p.2 = listOf vs.toArray 0 ∧ IntsAre vs ((pths b 8).getD j []) := fun j hj => hps.at j (by rw [pths_len]; exact hj)
  have e0 := Eq.refl (lBody.drop 12)
  conv at e0 => rhs; whnf
  rw [e0]
  clear e0
  iterate 4 walk1
  refine LCg.ListComp_U F (by with_unfolding_all rfl) (by decide) (by rfl) (by decide) (by rfl) ?_
  iterate 1 walk1
  refine LCg.CompSrc.ledger (by exact hh) F N (by k_mem) (by rw [sizeLine_eq]; simp; walk_at "om") (fun g2 => ?_)
  refine CompRest.turns (n := out.toArray.size) (fun i ys news2 => ∃ us : List (Str × Tok), ys = strValues us ∧ us.map (·.1) = (js.take i).map (dotN b) ∧ news2 = (D, listOf out.toArray ec) :: (rl, listOf (strValues rs).toArray kr) :: (wl, W) :: (L + 1, o1) :: (L + 4, o4) :: (L + 3, o3) :: (pl, listOf (pls.map fun p => Value.ref p.1).toArray kp) :: (nl, listOf (strValues nmt).toArray kn) :: (cl, CL) :: (L + 2, c2) :: (120, t120) :: (156, t156) :: (l ++ pls)) (fun i ys news1 v I2 oI C oC D2 m₂ h tk E' Qt hT hi hJ hP hC hx F N off ne => ?_) (fun ys news j => ?_) _ _ _ _ (Nat.zero_add _) ⟨[], rfl, rfl, rfl⟩
  · refine hideP fun G9 hG9 => ?_
    obtain ⟨us, rfl, hus, rfl⟩ := hJ
    refine hG9 ?_
    clear hG9
    have hi8 : i < js.length := by simpa [lout, ljs] using hi
    obtain ⟨t, ev⟩ := int_at' hout (i := i) (by simp; walk_at "om")
    have ev2 : v = .int ((js[i] : Nat) : Int) t := by
      have hP' : out[i]? = some v := by simpa using hP
      rw [hP'] at ev
      cases ev
      congr 1
      simp [List.getD_eq_getElem?_getD, List.getElem?_map, List.getElem?_eq_getElem hi8]
    subst ev2
    have hj8 : js[i] < 8 := List.mem_range.mp (hperm.mem_iff.mp (List.getElem_mem hi8))
    refine hideP fun G9 hG9 => ?_
    obtain ⟨p, vs, ep, eo, hvs⟩ := pat js[i] hj8
    refine hG9 ?_
    clear hG9
    have hpm : p ∈ pls := List.mem_of_getElem? ep
    have lvs : vs.length = ((pths b 8).getD js[i] []).length := hvs.length
    have lvs8 : vs.length ≤ 8 := by
      rw [lvs]
      exact pths_le (b := b) (by rw [List.getD_eq_getElem?_getD, List.getElem?_eq_getElem (by rw [pths_len]; exact hj8), Option.getD_some]; exact List.getElem_mem _)
    iterate 11 walk1
    refine item_litK (v := .ref p.1) ⟨_, N.get (by k_mem), rfl, _, rfl⟩ (by walk_at "om") (by walk_at "om") (by rw [Int.toNat_natCast, List.getElem?_map, ep]; rfl) ?_
    iterate 1 walk1
    refine call_len_list (items := vs.toArray) ⟨_, (N p (by simp [hpm])).1, by rw [eo], _, by rw [eo]⟩ (by simp; walk_at "om") ?_
    iterate 6 walk1
    have hjl : js[i] < nmt.length := by walk_at "om"
    have enm : nms.getD js[i] Str.empty = (nmt[js[i]]).1 := by
      rw [← hnm, List.getD_eq_getElem?_getD, List.getElem?_map, List.getElem?_eq_getElem hjl]; rfl
    refine item_litK (v := .str (nmt[js[i]]).1 (nmt[js[i]]).2) ⟨_, N.get (by k_mem), rfl, _, rfl⟩ (by walk_at "om") (by walk_at "om") (by rw [Int.toNat_natCast]; simp [strValues, hjl]) ?_
    have hx := nms_ok (nmt[js[i]]).1 (by rw [← hnm]; exact List.mem_map_of_mem (List.getElem_mem hjl))
    refine SB.add (hsz := ?hsz) ?_
    case hsz =>
      have e := congrArg List.length (mul_dot vs.toArray.size)
      rw [Array.length_toList, List.length_replicate] at e
      show (Txt.mul (Str.ofString ".") ((vs.toArray.size : Nat) + 1)).cps.size + (nmt[js[i]]).1.cps.size ≤ sizeLine
      rw [e, List.size_toArray, sizeLine_eq]
      walk_at "om"
    intro t' k'
    have ecmp : Txt.mul (Str.ofString ".") ((vs.toArray.size : Int) + 1) ++ (nmt[js[i]]).1 = dotN b js[i] := by
      refine Str.ext' (Array.toList_inj.mp ?_)
      rw [cps_append, mul_dot, List.size_toArray, lvs]
      unfold dotN
      rw [enm]
    have eus : strValues us ++ [Value.str (Txt.mul (Str.ofString ".") ((vs.toArray.size : Int) + 1) ++ (nmt[js[i]]).1) t'] = strValues (us ++ [(dotN b js[i], t')]) := by rw [ecmp]; simp [strValues]
    exact hT _ _ ⟨_, _, _, rfl, F, N, off, .inr ⟨_, by k_mem, rfl, _, rfl⟩, us ++ [(dotN b js[i], t')], eus, by rw [List.map_append, hus, List.take_add_one, List.getElem?_eq_getElem hi8, List.map_append]; rfl, rfl⟩
  · refine hideP fun G9 hG9 => ?_
    obtain ⟨us, rfl, hus, rfl⟩ := j
    refine hG9 ?_
    clear hG9
    rw [List.take_of_length_le (by simp [lout, ljs])] at hus
    intro D2 h5 tk5 F5 N5 off5
    have sok : ∀ x ∈ js.map (dotN b), PyData.strOk x = true := fun x hx => by
      obtain ⟨j, hj, rfl⟩ := List.mem_map.mp hx
      have hj8 : j < 8 := List.mem_range.mp (hperm.mem_iff.mp hj)
      exact dotN_ok b hj8
    refine words_ne (ws := rs) (us := us) ⟨_, N5.get (.tail _ (.tail _ (.head _))), rfl, _, rfl⟩ ⟨_, N5.get (.head _), rfl, _, rfl⟩ (by rw [hrow]; exact sok) (by rw [hus]; exact sok) (by show A.units + 64 < 9900; walk_at "om") ?_
    rw [decide_eq_true (by rw [hrow, hus])]
    iterate 1 walk1
    rw [if_neg (by decide)]
    iterate 1 walk1
    dsimp only
    exact hQ h5 _ F5 fun p hp => N5 p (.tail _ hp)
end
end
theorem Again.at39 {M : Model} {A : Around} {env : Env} {Q : Flow → Shared → Prop} {E : Value → Shared → Prop} {s : Shared} (h : Q .next s) : wpAny M A (execs [] env) Q E s := by w_top off; walk1; exact h
section
set_option maxRecDepth 100000
noncomputable def stp (c : Int) : Nat → Int
  | 0 => 1 + c % 2
  | k + 1 => stp c k + c / 2 ^ (k + 1) % 2
theorem stp_succ (c : Int) (k : Nat) : stp c (k + 1) = stp c k + c / 2 ^ (k + 1) % 2 := rfl
noncomputable def stepsOf (c : Int) (k : Nat) : List Int := (List.range (k + 1)).map (stp c)
theorem stepsOf_succ (c : Int) (k : Nat) : stepsOf c (k + 1) = stepsOf c k ++ [stp c (k + 1)] := by
  unfold stepsOf; rw [List.range_succ, List.map_append]; rfl
theorem stepsOf_snoc (c : Int) (k : Nat) : stepsOf c k = (List.range k).map (stp c) ++ [stp c k] := by
  unfold stepsOf; rw [List.range_succ, List.map_append]; rfl
theorem ints_snoc {us : List Value} {ds : List Int} {d : Int} (h : IntsAre us (ds ++ [d])) : ∃ ys t, us = ys ++ [.int d t] := by
  obtain ⟨t, e⟩ := h.get ds.length d List.getElem?_concat_length
  obtain ⟨hl, e⟩ := List.getElem?_eq_some_iff.mp e
  have hu : us.length = ds.length + 1 := h.length.trans (by rw [List.length_append]; rfl)
  exact ⟨us.take ds.length, t, by rw [← e, List.take_append_getElem, List.take_of_length_le (Nat.le_of_eq hu)]⟩
inductive JS (cl sl : Addr) (m : Str → Option Value) (f : Nat → Int) (tf : Nat → Tok) (kc : Nat) (rest : List (Addr × Obj)) (i : Nat) (m' : Str → Option Value) (news' : List (Addr × Obj)) : Prop
  | mk (m1 : m' "cells" = some (.ref cl)) (m2 : m' "steps" = some (.ref sl)) (m3 : ∀ x : Str, x ≠ Str.ofString "steps" → x ≠ Str.ofString "k" → m' x = m x) (us : List Value) (ks : Nat) (hus : IntsAre us (stepsOf (f 0) i)) (e : news' = (sl, listOf us.toArray ks) :: (cl, listOf ((List.range 8).map fun i => Value.int (f i) (tf i)).toArray kc) :: rest)
section
variable {w : World} {mg mb : Str → Option Value} {g : Heap} {A : Around} {s : Shared} {E : Value → Shared → Prop} {Q : Flow → Shared → Prop}
set_option maxHeartbeats 4000000
theorem law_s1315 (G : Gnd w mg mb g) (hroom : A.depth < 500) (hh : A.handled = none) {L fa cl : Addr} {m : Str → Option Value} {f : Nat → Int} {tf : Nat → Tok} {kc : Nat} {rest : List (Addr × Obj)}
   (F : Fr g L s.heap m) (N : News g L s.heap ((cl, listOf ((List.range 8).map fun i => Value.int (f i) (tf i)).toArray kc) :: rest))
   (hf : 0 ≤ f 0) (m1 : m "cells" = some (.ref cl))
   (hQ : ∀ h' tk m' (sl : Addr) (us : List Value) (ks : Nat) (tt : Tok), IntsAre us (stepsOf (f 0) 3) → m' "steps" = some (.ref sl) → m' "tail" = some (.int (f 0 / 16 % 3) tt) → (∀ x : Str, x ≠ Str.ofString "steps" → x ≠ Str.ofString "k" → x ≠ Str.ofString "tail" → m' x = m x) → (∀ p ∈ (cl, listOf ((List.range 8).map fun i => Value.int (f i) (tf i)).toArray kc) :: rest, p.1 < sl) → Fr g L h' m' →
      News g L h' ((sl, listOf us.toArray ks) :: (cl, listOf ((List.range 8).map fun i => Value.int (f i) (tf i)).toArray kc) :: rest) →
      wpAny (model PG w) A (execs (lBody.drop 16) (lEnv L fa)) Q E { s with heap := h', toks := tk }) :
   wpAny (model PG w) A (execs (lBody.drop 13) (lEnv L fa)) Q E s := by
  have XK := G.k
  obtain ⟨me, TT⟩ := G.t
  have e0 := Eq.refl (lBody.drop 13)
  conv at e0 => rhs; whnf
  rw [e0]
  clear e0
  iterate 10 walk1
  refine item_litK (v := .int (f 0) (tf 0)) ⟨_, N.get (.head _), rfl, _, rfl⟩ (by decide) (by decide) (by rfl) ?_
  iterate 4 walk1
  refine newList_vals [.int (1 + (f 0).fmod 2) _] F N (fun sl h1 F1 N1 l1 => ?_) (by simp)
  iterate 3 walk1
  refine wpAny_For ?_
  iterate 8 walk1
  (with_reducible rename Fr _ _ _ _ => F2)
  (with_reducible rename News _ _ _ _ => N2)
  refine range2_iter F2 N2 (by decide) (by decide) (by decide) fun it h2 tk2 F3 N3 l3 => ?_
  have hsl : @Ne Nat it sl := Nat.ne_of_gt (l3 _ (.head _))
  refine loopRange (by exact hh) (x0 := 1) (c := 1) (n := 3) (JS cl sl m f tf kc rest) F3 N3 ⟨(if_neg (by decide)).trans m1, if_pos rfl, fun x h1 h2 => if_neg h1, _, 0, ?_, rfl⟩ ?_ ?_ ?_
  · rw [Int.fmod_eq_emod_of_nonneg _ (by decide)]
    exact .cons _ _ .nil
  · rintro i m' news' ⟨_, _, _, us, ks, _, rfl⟩ p hp
    rcases List.mem_cons.mp hp with rfl | hp
    · exact fun e => hsl e.symm
    · exact Nat.ne_of_lt (l3 p (.tail _ hp))
  · rintro i t m' news' h' tk Qt Et hT hE hi ⟨m1', m2', m3', us, ks, hus, rfl⟩ F4 N4
    have hus0 := hus
    rw [stepsOf_snoc] at hus
    obtain ⟨ys, ty, rfl⟩ := ints_snoc hus
    have lus : (ys ++ [Value.int (stp (f 0) i) ty]).length = i + 1 := by rw [hus0.length]; unfold stepsOf; simp
    iterate 13 walk1
    (with_reducible rename Fr _ _ _ _ => F5)
    (with_reducible rename News _ _ _ _ => N5)
    refine item_last (ys := ys) (y := .int (stp (f 0) i) ty) ⟨_, N5.get (.tail _ (.head _)), rfl, _, rfl⟩ ?_
    iterate 5 walk1
    refine item_litK (v := .int (f 0) (tf 0)) ⟨_, N5.get (.tail _ (.tail _ (.head _))), rfl, _, rfl⟩ (by decide) (by decide) (by rfl) ?_
    iterate 4 walk1
    have ep : ((2 : Int) ^ (1 + (i : Int) * 1).toNat) = 2 ^ (i + 1) := by rw [show (1 + (i : Int) * 1).toNat = i + 1 by walk_at "om"]
    rw [ep]
    have hi3 : i = 0 ∨ i = 1 ∨ i = 2 := by walk_at "om"
    refine floordiv_int (by rcases hi3 with rfl | rfl | rfl <;> decide) ?_ (.inl (PyProof.noPylong_small (by rcases hi3 with rfl | rfl | rfl <;> decide)))
    iterate 4 walk1
    have ev : stp (f 0) i + ((f 0).fdiv (2 ^ (i + 1))).fmod 2 = stp (f 0) (i + 1) := by
      rw [Int.fmod_eq_emod_of_nonneg _ (by decide), Int.fdiv_eq_ediv_of_nonneg _ (by rcases hi3 with rfl | rfl | rfl <;> decide)]
      rfl
    rw [ev]
    refine append_K (its := (ys ++ [Value.int (stp (f 0) i) ty]).toArray) (by assumption) N5 (.tail hsl (.head fun p hp => Nat.ne_of_lt (l1 p hp))) ?_ (by rw [List.size_toArray, lus, sizeLine_eq]; walk_at "om")
    intro h6 F6 N6
    obtain ⟨tt, N7⟩ : ∃ tt, News g L h6 ((it, riObj (1 + (i + 1 : Nat) * 1) (((3 : Nat) : Int) - (i + 1 : Nat)) 1) :: (sl, listOf (ys ++ [Value.int (stp (f 0) i) ty] ++ [Value.int (stp (f 0) (i + 1)) tt]).toArray (ks + 1)) :: (cl, listOf ((List.range 8).map fun i => Value.int (f i) (tf i)).toArray kc) :: rest) := ⟨_, by rw [← List.push_toArray]; exact N6⟩
    clear N6
    iterate 2 walk1
    exact hT _ _ ⟨_, _, _, _, rfl, F6, N7, lk_ne (by decide) m1', lk_ne (by decide) m2', fun x h1 h2 => (if_neg h2).trans (m3' x h1 h2), _, _, by rw [stepsOf_succ]; exact IntsAre.append hus0 (.cons _ tt .nil), rfl⟩
  · rintro h' tk m' news' ⟨m1', m2', m3', us, ks, hus, rfl⟩ F4 N4
    dsimp only
    iterate 7 walk1
    refine item_litK (v := .int (f 0) (tf 0)) ⟨_, N4.get (.tail _ (.head _)), rfl, _, rfl⟩ (by decide) (by decide) (by rfl) ?_
    iterate 5 walk1
    (with_reducible rename Fr _ _ _ _ => F5)
    (with_reducible rename News _ _ _ _ => N5)
    have et : ((f 0).fdiv 16).fmod 3 = f 0 / 16 % 3 := by
      rw [Int.fmod_eq_emod_of_nonneg _ (by decide), Int.fdiv_eq_ediv_of_nonneg _ (by decide)]
    refine hQ _ _ _ sl us ks _ hus (lk_ne (by decide) m2') (by rw [← et]; exact lk_eq) (fun x h1 h2 h3 => (if_neg h3).trans (m3' x h1 h2)) l1 F5 N5
end
end
theorem Again.at40 {M : Model} {A : Around} {env : Env} {Q : Flow → Shared → Prop} {E : Value → Shared → Prop} {s : Shared} (h : Q .next s) : wpAny M A (execs [] env) Q E s := by w_top off; walk1; exact h
section
set_option maxRecDepth 100000
theorem stp_bounds (c : Int) : ∀ k, 1 ≤ stp c k ∧ stp c k ≤ k + 2
  | 0 => by show 1 ≤ 1 + c % 2 ∧ 1 + c % 2 ≤ (0 : Nat) + 2; walk_at "om"
  | k + 1 => by
    have := stp_bounds c k
    rw [stp_succ]
    have h2 : 0 ≤ c / 2 ^ (k + 1) % 2 ∧ c / 2 ^ (k + 1) % 2 < 2 := ⟨Int.emod_nonneg _ (by decide), Int.emod_lt_of_pos _ (by decide)⟩
    walk_at "om"
noncomputable def depths (b : Nat → Nat) : List Int := (List.range 8).map (plen b)
section
variable {w : World} {mg mb : Str → Option Value} {g : Heap} {A : Around} {s : Shared} {E : Value → Shared → Prop} {Q : Flow → Shared → Prop}
set_option maxHeartbeats 4000000
theorem law_s16 (G : Gnd w mg mb g) (hroom : A.depth < 500) (hh : A.handled = none) {L fa sl pl : Addr} {o4 : Obj} {m : Str → Option Value} {c : Int} {ks kp : Nat} {us : List Value} {rest pls : List (Addr × Obj)} {b : Nat → Nat}
   (F : Fr g L s.heap m) (N : News g L s.heap ((sl, listOf us.toArray ks) :: (L + 4, o4) :: (pl, listOf (pls.map fun p => Value.ref p.1).toArray kp) :: rest))
   (d4 : o4.data = .cell (some (.ref pl))) (hps : PathsAre pls (pths b 8)) (hsub : ∀ p ∈ pls, p ∈ rest) (hus : IntsAre us (stepsOf c 3)) (m1 : m "steps" = some (.ref sl))
   (hQ : ∀ h' tk m' tl (M : Nat), (M : Int) ∈ depths b → (∀ a ∈ depths b, a ≤ M) → m' "least" = some (.int (leastF (depths b) (stepsOf c 3) M) tl) → (∀ x : Str, x ≠ Str.ofString "least" → m' x = m x) → Fr g L h' m' →
      News g L h' ((sl, listOf us.toArray ks) :: (L + 4, o4) :: (pl, listOf (pls.map fun p => Value.ref p.1).toArray kp) :: rest) →
      wpAny (model PG w) A (execs (lBody.drop 17) (lEnv L fa)) Q E { s with heap := h', toks := tk }) :
   wpAny (model PG w) A (execs (lBody.drop 16) (lEnv L fa)) Q E s := by
  have XK := G.k
  obtain ⟨me, TT⟩ := G.t
  have lps : pls.length = 8 := by rw [hps.length, pths_len]
  have pat : ∀ j, j < 8 → ∃ p vs, pls[j]? = some p ∧ p.2 = listOf vs.toArray 0 ∧ IntsAre vs ((pths b 8).getD j []) := fun j hj => hps.at j (by rw [pths_len]; exact hj)
  have e0 := Eq.refl (lBody.drop 16)
  conv at e0 => rhs; whnf
  rw [e0]
  clear e0
  iterate 6 walk1
  refine LCg.ListComp_U F (by with_unfolding_all rfl) (by decide) (by rfl) (by decide) (by rfl) ?_
  iterate 1 walk1
  refine LCg.CompSrc.ledger (by exact hh) F N (by k_mem) (by rw [sizeLine_eq]; simp; walk_at "om") (fun g2 => ?_)
  refine CompRest.turns (n := (pls.map fun p => Value.ref p.1).toArray.size) (fun i ys news2 => IntsAre ys ((depths b).take i) ∧ news2 = (sl, listOf us.toArray ks) :: (L + 4, o4) :: (pl, listOf (pls.map fun p => Value.ref p.1).toArray kp) :: rest) (fun i ys news1 v I2 oI C oC D2 m₂ h tk E' Qt hT hi hJ hP hC hx F N off ne => ?_) (fun ys news j => ?_) _ _ _ _ (Nat.zero_add _) ⟨.nil, rfl⟩
  · obtain ⟨hys, rfl⟩ := hJ
    have hi8 : i < 8 := by simpa [lps] using hi
    refine hideP fun G9 hG9 => ?_
    obtain ⟨p, vs, ep, eo, hvs⟩ := pat i hi8
    refine hG9 ?_
    clear hG9
    have hpm : p ∈ rest := hsub p (List.mem_of_getElem? ep)
    have ev : v = .ref p.1 := by
      have hP' : (pls.map fun p => Value.ref p.1)[i]? = some v := by simpa using hP
      rw [List.getElem?_map, ep] at hP'
      exact (Option.some.inj hP').symm
    subst ev
    have lvs : vs.length = ((pths b 8).getD i []).length := hvs.length
    have lvs8 : vs.length ≤ 8 := by
      rw [lvs]
      exact pths_le (b := b) (by rw [List.getD_eq_getElem?_getD, List.getElem?_eq_getElem (by rw [pths_len]; exact hi8), Option.getD_some]; exact List.getElem_mem _)
    iterate 6 walk1
    refine call_len_list (items := vs.toArray) ⟨_, (N p (by simp [hpm])).1, by rw [eo], _, by rw [eo]⟩ (by simp; walk_at "om") ?_
    have ed : (depths b)[i]? = some (vs.toArray.size : Nat) := by
      unfold depths plen
      rw [List.getElem?_map, List.getElem?_range hi8, List.size_toArray, lvs]
      rfl
    exact hT _ _ ⟨_, _, _, rfl, F, N, off, .inr ⟨_, by k_mem, rfl, _, rfl⟩, by rw [List.take_add_one, ed]; exact IntsAre.append hys (.cons _ _ .nil), rfl⟩
  · obtain ⟨hys, rfl⟩ := j
    rw [List.take_of_length_le (by simp [depths, lps])] at hys
    intro D2 h5 tk5 F5 N5 off5
    iterate 3 walk1
    refine ⟨XK.keeps F5.keep, wpAny_call (least_spec G (by exact F5.keep) (by walk_at "om") (by exact hh) (Mine.News.led (L := L) (List.forall_mem_cons.mpr ⟨N5 _ (.head _), List.forall_mem_cons.mpr ⟨N5 _ (.tail _ (.head _)), List.forall_mem_nil _⟩⟩)) hys hus (by simp [depths]) (by simp [stepsOf]) ?_ ?_ fun h6 tk6 t6 M kb6 hM1 hM2 => ?_)⟩
    · intro d hd
      obtain ⟨j, hj, rfl⟩ := List.mem_map.mp hd
      have hj8 := List.mem_range.mp hj
      unfold plen
      have := pths_le (b := b) (k := 8) (d := (pths b 8).getD j []) (by rw [List.getD_eq_getElem?_getD, List.getElem?_eq_getElem (by rw [pths_len]; exact hj8), Option.getD_some]; exact List.getElem_mem _)
      walk_at "om"
    · intro x hx
      obtain ⟨j, hj, rfl⟩ := List.mem_map.mp hx
      have hj8 := List.mem_range.mp hj
      have := stp_bounds c j
      walk_at "om"
    have F6 := F5.kept (Keep.all kb6)
    have N6 := N5.grown (Keep.all kb6)
    clear F5 N5 F N
    dsimp only
    iterate 1 walk1
    (with_reducible rename Fr _ _ _ _ => F7)
    (with_reducible rename News _ _ _ _ => N7)
    exact hQ _ _ _ _ M hM1 hM2 lk_eq (fun x h => if_neg h) F7 fun p hp => N7 p (.tail _ hp)
end
end
theorem Again.at41 {M : Model} {A : Around} {env : Env} {Q : Flow → Shared → Prop} {E : Value → Shared → Prop} {s : Shared} (h : Q .next s) : wpAny M A (execs [] env) Q E s := by w_top off; walk1; exact h
section
set_option maxRecDepth 100000
noncomputable def tailOf (t : Nat) : List Int := if t = 0 then [0, 1] else if t = 1 then [127, 1] else []
section
variable {w : World} {mg mb : Str → Option Value} {g : Heap} {A : Around} {s : Shared} {E : Value → Shared → Prop} {Q : Flow → Shared → Prop}
set_option maxHeartbeats 4000000
theorem law_s17 (G : Gnd w mg mb g) (hroom : A.depth < 500) (hh : A.handled = none) (hu : A.units < 8000) {L fa sl wl rl : Addr} {o1 : Obj} {X : LX} {m : Str → Option Value} {c : Int} {ks kw kr : Nat} {tt : Tok} {us : List Value} {ws rs : List (Str × Tok)} {l rest : List (Addr × Obj)}
   (F : Fr g L s.heap m) (N : News g L s.heap ((sl, listOf us.toArray ks) :: (rl, listOf (strValues rs).toArray kr) :: (wl, listOf (strValues ws).toArray kw) :: (L + 1, o1) :: (l ++ rest)))
   (d1 : o1.data = .cell (some (.ref X.lx))) (hl : IsLex w.params X 11 [] [] l) (hoff : ∀ p ∈ (sl, listOf us.toArray ks) :: (rl, listOf (strValues rs).toArray kr) :: (wl, listOf (strValues ws).toArray kw) :: (L + 1, o1) :: rest, p.1 ∉ l.map (·.1))
   (hus : IntsAre us (stepsOf c 3)) (h1 : m "steps" = some (.ref sl)) (h2 : m "words" = some (.ref wl)) (h3 : m "row" = some (.ref rl)) (h4 : m "tail" = some (.int (c / 16 % 3) tt))
   (hw8 : ws.length ≤ 8) (hr8 : rs.length ≤ 8) (hsub : ∀ p ∈ rs, p.1 ∈ ws.map (·.1)) (hz : ∀ p ∈ ws, p.1.cps.size ≤ 100 ∧ PyData.strOk p.1 = true)
   (hnf : ∀ j, gnext (stepsOf c 3 ++ tailOf (c / 16 % 3).toNat) (gst (stepsOf c 3 ++ tailOf (c / 16 % 3).toNat) j) ≠ .fail)
   (hQ : ∀ h' tk gens' m' (q : Addr) (k : Nat) (t1 t2 : Tok) (j : Nat) (wa : List Str), hoursF (ws.map (·.1)) (stepsOf c 3 ++ tailOf (c / 16 % 3).toNat) 25 0 (rs.map (·.1)) = (j, wa) → m' "told" = some (.ref q) → (∀ x : Str, x ≠ Str.ofString "told" → m' x = m x) → (AllBare s.gens → AllBare gens') → Fr g L h' m' →
      News g L h' ((q, listOf #[.int (j : Nat) t1, .int (wa.length : Nat) t2] k) :: (sl, listOf us.toArray ks) :: (rl, listOf (strValues rs).toArray kr) :: (wl, listOf (strValues ws).toArray kw) :: (L + 1, o1) :: rest) →
      wpAny (model PG w) A (execs (lBody.drop 18) (lEnv L fa)) Q E { s with heap := h', toks := tk, gens := gens' }) :
   wpAny (model PG w) A (execs (lBody.drop 17) (lEnv L fa)) Q E s := by
  have XK := G.k
  obtain ⟨me, TT⟩ := G.t
  have e0 := Eq.refl (lBody.drop 17)
  conv at e0 => rhs; whnf
  rw [e0]
  clear e0
  iterate 23 walk1
  refine newList_vals [.int 0 _, .int 1 _] F N (fun q1 h5 F5 N5 l5 => ?_) (by simp)
  iterate 7 walk1
  refine newList_vals [.int 127 _, .int 1 _] F5 N5 (fun q2 h6 F6 N6 l6 => ?_) (by simp)
  iterate 3 walk1
  refine newList_vals [] F6 N6 (fun q3 h7 F7 N7 l7 => ?_) (by simp)
  iterate 1 walk1
  refine newList_vals [.ref q1, .ref q2, .ref q3] F7 N7 (fun q4 h8 F8 N8 l8 => ?_) (by simp)
  iterate 1 walk1
  have ht3 : (c / 16 % 3).toNat = 0 ∨ (c / 16 % 3).toNat = 1 ∨ (c / 16 % 3).toNat = 2 := by walk_at "om"
  obtain ⟨qt, ts, eq, hts, gt⟩ : ∃ (qt : Addr) (ts : List Value), [Value.ref q1, .ref q2, .ref q3][(c / 16 % 3).toNat]? = some (.ref qt) ∧ IntsAre ts (tailOf (c / 16 % 3).toNat) ∧ h8.get? qt = some (listOf ts.toArray 0) := by
    rcases ht3 with e | e | e
    · rw [e]; exact ⟨q1, _, rfl, .cons _ _ (.cons _ _ .nil), (N8 _ (.tail _ (.tail _ (.tail _ (.head _))))).1⟩
    · rw [e]; exact ⟨q2, _, rfl, .cons _ _ (.cons _ _ .nil), (N8 _ (.tail _ (.tail _ (.head _)))).1⟩
    · rw [e]; exact ⟨q3, _, rfl, .nil, (N8 _ (.tail _ (.head _))).1⟩
  refine item_litK (v := .ref qt) ⟨_, N8.get (.head _), rfl, _, rfl⟩ (by walk_at "om") (by walk_at "om") eq ?_
  have lus : us.length = 4 := by rw [hus.length]; simp [stepsOf]
  have lts : ts.length ≤ 2 := by rw [hts.length]; rcases ht3 with e | e | e <;> rw [e] <;> decide
  refine kmk_add_lit (zs := us ++ ts) F8 N8 ⟨_, N8.get (.tail _ (.tail _ (.tail _ (.tail _ (.head _))))), rfl, _, rfl⟩ ⟨_, gt, rfl, _, rfl⟩ (by simp) (fun D1 h9 F9 N9 l9 => ?_) (by simp [sizeLine_eq]; walk_at "om")
  iterate 1 walk1
  have old9 : ∀ p ∈ (sl, listOf us.toArray ks) :: (rl, listOf (strValues rs).toArray kr) :: (wl, listOf (strValues ws).toArray kw) :: (L + 1, o1) :: (l ++ rest), h9.get? p.1 = some p.2 := fun p hp => (dropP N9 5 p hp).1
  have D1l : D1 ∉ l.map (·.1) := fun q => by
    obtain ⟨p, hp, e⟩ := List.mem_map.mp q
    have := leftP (dropP l9 8) p hp
    rw [e] at this
    exact Nat.lt_irrefl _ this
  refine ⟨XK.keeps F9.keep, wpAny_call (hours_spec G (by exact F9.keep) (by walk_at "om") (by exact hh) (by walk_at "om") hl (Mine.News.led (L := L) (List.forall_mem_cons.mpr ⟨N9 _ (atM 7 rfl), List.forall_mem_cons.mpr ⟨N9 _ (atM 6 rfl), List.forall_mem_cons.mpr ⟨N9 _ (.head _), leftP (dropP N9 9)⟩⟩⟩)) (hoff _ (atM 2 rfl)) (hoff _ (atM 1 rfl)) D1l hw8 hr8 hsub hz (IntsAre.append hus hts) hnf fun h' tk gens' q k t1 t2 j wa kb fq eqq ehr hAB => ?_)⟩
  have F10 := Fr.after F9 kb (fun q => by
    obtain ⟨p, hp, e⟩ := List.mem_map.mp q
    exact (leftP (dropP N9 9) p hp).2.1 e) (fun a ha => by
    obtain ⟨p, hp, rfl⟩ := List.mem_map.mp ha
    exact (leftP (dropP N9 9) p hp).2.2)
  have N10 : News g L h' ((q, listOf #[.int (j : Nat) t1, .int (wa.length : Nat) t2] k) :: (sl, listOf us.toArray ks) :: (rl, listOf (strValues rs).toArray kr) :: (wl, listOf (strValues ws).toArray kw) :: (L + 1, o1) :: rest) := by
    have M9 := pickP N9 [5, 6, 7, 8] (rightP (dropP N9 9))
    exact consP (Mine.Fr.fresh F9 fq eqq) fun p hp => ⟨kb _ _ (hoff p hp) (M9 p hp).1, (M9 p hp).2⟩
  clear N9 F9
  dsimp only
  iterate 1 walk1
  (with_reducible rename Fr _ _ _ _ => F12)
  (with_reducible rename News _ _ _ _ => N12)
  exact hQ _ _ gens' _ q k t1 t2 j wa ehr lk_eq (fun x h => if_neg h) hAB F12 N12
end
end
theorem Again.at42 {M : Model} {A : Around} {env : Env} {Q : Flow → Shared → Prop} {E : Value → Shared → Prop} {s : Shared} (h : Q .next s) : wpAny M A (execs [] env) Q E s := by w_top off; walk1; exact h
section
open PySem.SeqAt
set_option maxRecDepth 100000
theorem sokIG : ∀ x ∈ [Str.ofString "invalid grouping"], PyData.strOk x = true := by decide +kernel
section
variable {w : World} {mg mb : Str → Option Value} {g : Heap} {A : Around} {s : Shared} {E : Value → Shared → Prop} {Q : Flow → Shared → Prop}
set_option maxHeartbeats 4000000
theorem law_s18 (G : Gnd w mg mb g) (hroom : A.depth < 500) (hh : A.handled = none) (hu : A.units < 7000) {L fa sl : Addr} {m : Str → Option Value} {c : Int} {ks : Nat} {us : List Value} {rest : List (Addr × Obj)}
   (hfr : A.frames = some [lEnv L fa])
   (F : Fr g L s.heap m) (N : News g L s.heap ((sl, listOf us.toArray ks) :: rest)) (hus : IntsAre us (stepsOf c 3)) (h1 : m "steps" = some (.ref sl))
   (hnf : ∀ j, gnext (stepsOf c 3 ++ [-1, 0]) (gst (stepsOf c 3 ++ [-1, 0]) j) ≠ .fail) (htold : toldF (stepsOf c 3 ++ [-1, 0]) 10 0 [] = stepsOf c 3 ++ [-1, -1, -1])
   (hQ : ∀ h' tk gens', (AllBare s.gens → AllBare gens') → Fr g L h' m → News g L h' ((sl, listOf us.toArray ks) :: rest) →
      wpAny (model PG w) A (execs (lBody.drop 19) (lEnv L fa)) Q E { s with heap := h', toks := tk, gens := gens' }) :
   wpAny (model PG w) A (execs (lBody.drop 18) (lEnv L fa)) Q E s := by
  have XK := G.k
  obtain ⟨me, TT⟩ := G.t
  have e0 := Eq.refl (lBody.drop 18)
  conv at e0 => rhs; whnf
  rw [e0]
  clear e0
  iterate 13 walk1
  refine newList_vals [.int 0 _] F N (fun q1 h2 F2 N2 l2 => ?_) (by simp)
  iterate 1 walk1
  have lus : us.length = 4 := by rw [hus.length]; simp [stepsOf]
  refine kmk_add_lit (zs := .int 0 _ :: us) F2 N2 ⟨_, N2.get (.head _), rfl, _, rfl⟩ ⟨_, N2.get (.tail _ (.head _)), rfl, _, rfl⟩ (by rfl) (fun D1 h3 F3 N3 l3 => ?_) (by simp [sizeLine_eq]; walk_at "om")
  iterate 1 walk1
  have nD1 := N3 _ (.head _)
  refine hideP fun G9 hG9 => ?_
  obtain ⟨oL, es, ep, eL, dL, kL, fL⟩ := F3.ns
  refine hG9 ?_
  clear hG9
  have gL : g.get? L = none := Heap.get?_none_of_le F3.above
  refine ⟨XK.keeps F3.keep, wpAny_call (told_fail G (by exact F3.keep) (by walk_at "om") (by exact hh) (by walk_at "om") (List.forall_mem_cons.mpr ⟨⟨nD1.1, nD1.2.2⟩, List.forall_mem_cons.mpr ⟨⟨eL, gL⟩, List.forall_mem_nil _⟩⟩) (IntsAre.cons 0 _ hus) (by rfl) hfr (by rfl) (by show (defS lawDef).kind ≠ .module; decide) ⟨es, ep, dL⟩ nD1.2.1 fun h4 tk4 gens4 q4 k4 t4 z0 kb4 eL4 fq4 eq4 hAB4 => ?_)⟩
  have ns4 : h4.Ns L m := ⟨_, es, ep, eL4, dL, kL, fL⟩
  have F4 : Fr g L h4 m := ⟨ns4, fun b o e => kb4 b o (fun q => by rw [List.mem_singleton.mp q, gL] at e; cases e) (F3.keep b o e), F3.above⟩
  have N4 : News g L h4 ((sl, listOf us.toArray ks) :: rest) := fun p hp => by
    have hp3 := N3 p (.tail _ (.tail _ hp))
    exact ⟨kb4 _ _ (fun q => hp3.2.1 (List.mem_singleton.mp q)) hp3.1, hp3.2⟩
  have N4q : News g L h4 ((q4, listOf (strValues [(Str.ofString "invalid grouping", t4)]).toArray k4) :: (sl, listOf us.toArray ks) :: rest) := consP (Mine.Fr.fresh F3 fq4 eq4) N4
  clear N4 N3 F3 N2 F2 N F
  dsimp only
  iterate 4 walk1
  refine newList_strs [(Str.ofString "invalid grouping", _)] F4 N4q (fun q5 h5 F5 N5 l5 => ?_) (by simp [strValues])
  refine words_ne (ws := [(Str.ofString "invalid grouping", t4)]) (us := [(Str.ofString "invalid grouping", _)]) ⟨_, N5.get (.tail _ (.head _)), rfl, _, rfl⟩ ⟨_, N5.get (.head _), rfl, _, rfl⟩ sokIG sokIG (by show A.units + 64 < 9900; walk_at "om") ?_
  rw [decide_eq_true (by rfl)]
  iterate 1 walk1
  rw [if_neg (by decide)]
  iterate 16 walk1
  refine newList_vals [.int (-1) _, .int 0 _] F5 N5 (fun q6 h6 F6 N6 l6 => ?_) (by simp)
  have hus0 := hus
  refine kmk_add_lit (zs := us ++ [.int (-1) _, .int 0 _]) F6 N6 ⟨_, N6.get (.tail _ (.tail _ (.tail _ (.head _)))), rfl, _, rfl⟩ ⟨_, N6.get (.head _), rfl, _, rfl⟩ (by rfl) (fun D2 h7 F7 N7 l7 => ?_) (by simp [sizeLine_eq]; walk_at "om")
  iterate 1 walk1
  have nD2 := N7 _ (.head _)
  refine ⟨XK.keeps F7.keep, wpAny_call (told_spec G (by exact F7.keep) (by walk_at "om") (by exact hh) (List.forall_mem_cons.mpr ⟨⟨nD2.1, nD2.2.2⟩, List.forall_mem_nil _⟩) (IntsAre.append hus (.cons (-1) _ (.cons 0 _ .nil))) hnf fun h8 tk8 gens8 q8 k8 vs8 kb8 fq8 eq8 hI8 hAB8 => ?_)⟩
  rw [htold] at hI8
  have F8 := F7.kept (Keep.all kb8)
  have N8 : News g L h8 ((q8, listOf vs8.toArray k8) :: (sl, listOf us.toArray ks) :: rest) := consP (Mine.Fr.fresh F7 fq8 eq8) fun p hp => ⟨Keep.all kb8 _ _ (N7 p (.tail _ (.tail _ (.tail _ (.tail _ hp))))).1, (N7 p (.tail _ (.tail _ (.tail _ (.tail _ hp))))).2⟩
  clear N7 F7 N6 F6 N5 F5 N4q F4
  dsimp only
  iterate 9 walk1
  refine newList_vals [.int (-1) _] F8 N8 (fun q9 h9 F9 N9 l9 => ?_) (by simp)
  iterate 1 walk1
  refine mul_list F9 N9 (items := #[.int (-1) _]) (N9 _ (.head _)).1 (by decide) (by decide) (by show 1 * 3 ≤ 2 ^ 24; decide) fun h10 F10 N10 => ?_
  have eus : us.length = 4 := lus
  obtain ⟨t9, N11⟩ : ∃ t9, News g L h10 ((h9.objs.size, listOf [Value.int (-1) t9, .int (-1) t9, .int (-1) t9].toArray 0) :: (q9, listOf [Value.int (-1) t9].toArray 0) :: (q8, listOf vs8.toArray k8) :: (sl, listOf us.toArray ks) :: rest) := ⟨_, N10⟩
  clear N10 N9 F9
  refine kmk_add_lit (zs := us ++ [Value.int (-1) t9, .int (-1) t9, .int (-1) t9]) F10 N11 ⟨_, N11.get (.tail _ (.tail _ (.tail _ (.head _)))), rfl, _, rfl⟩ ⟨_, N11.get (.head _), rfl, _, rfl⟩ (by rfl) (fun D3 h11 F11 N12 l11 => ?_) (by simp [sizeLine_eq]; walk_at "om")
  have hI3 : IntsAre (us ++ [Value.int (-1) t9, .int (-1) t9, .int (-1) t9]) (stepsOf c 3 ++ [-1, -1, -1]) := IntsAre.append hus (.cons _ _ (.cons _ _ (.cons _ _ .nil)))
  have l8 : vs8.length = 7 := by rw [hI8.length]; simp [stepsOf]
  refine RcNeAt.lists (e := fun _ => true) ⟨_, N12.get (.tail _ (.tail _ (.tail _ (.head _)))), rfl, _, rfl⟩ ⟨_, N12.get (.head _), rfl, _, rfl⟩ (by simp; walk_at "om") (by show A.units < 9900; walk_at "om") ?_ PG w _ _ ?_
  · intro j j1 j2
    simp only [List.size_toArray] at j1 j2
    obtain ⟨u1, x1⟩ := int_at' hI8 (i := j) (by rw [← hI8.length]; exact j1)
    obtain ⟨u2, x2⟩ := int_at' hI3 (i := j) (by rw [← hI3.length]; exact j2)
    rw [List.getElem?_eq_getElem j1] at x1
    rw [List.getElem?_eq_getElem j2] at x2
    rw [List.getElem_toArray, List.getElem_toArray, Option.some.inj x1, Option.some.inj x2]
    exact eqAt_int _ _ _
  rw [show ∀ n : Nat, (!(List.range n).all fun _ => true) = false from fun n => by simp]
  iterate 1 walk1
  rw [if_neg (by decide)]
  iterate 4 walk1
  dsimp only
  exact hQ h11 _ gens8 (fun hA => hAB8 (hAB4 hA)) F11 fun p hp => N12 p (.tail _ (.tail _ (.tail _ (.tail _ hp))))
end
end
theorem Again.at43 {M : Model} {A : Around} {env : Env} {Q : Flow → Shared → Prop} {E : Value → Shared → Prop} {s : Shared} (h : Q .next s) : wpAny M A (execs [] env) Q E s := by w_top off; walk1; exact h
section
open PySem.SeqAt
set_option maxRecDepth 100000
section
variable {w : World} {mg mb : Str → Option Value} {g : Heap} {A : Around} {s : Shared} {E : Value → Shared → Prop} {Q : Flow → Shared → Prop}
set_option maxHeartbeats 4000000
theorem law_s1920 (G : Gnd w mg mb g) (hh : A.handled = none) (hu : A.units < 7000) {L fa q : Addr} {m : Str → Option Value} {t ls : Int} {tt tl t1 t2 : Tok} {k j n : Nat} {rest : List (Addr × Obj)}
   (F : Fr g L s.heap m) (N : News g L s.heap ((q, listOf #[.int (j : Nat) t1, .int (n : Nat) t2] k) :: rest))
   (h1 : m "tail" = some (.int t tt)) (h2 : m "least" = some (.int ls tl)) (h3 : m "told" = some (.ref q))
   (hp : if t = 0 ∨ ls < 5 then (j : Int) = ls ∧ n = 0 else j = 4 ∧ 0 < n)
   (hQ : ∀ h' tk, Fr g L h' m → News g L h' rest → Q (.ret (.bool true)) { s with heap := h', toks := tk }) :
   wpAny (model PG w) A (execs (lBody.drop 19) (lEnv L fa)) Q E s := by
  have XK := G.k
  obtain ⟨me, TT⟩ := G.t
  have e0 := Eq.refl (lBody.drop 19)
  conv at e0 => rhs; whnf
  rw [e0]
  clear e0
  iterate 10 walk1
  · iterate 11 walk1
    rw [if_pos (.inl ‹t = 0›)] at hp
    refine newList_vals [.int ls _, .int 0 _] F N (fun q1 h2 F2 N2 l2 => ?_) (by simp)
    refine eq_intsK (vs := [.int (j : Nat) t1, .int (n : Nat) t2]) (us := [.int ls _, .int 0 _]) ⟨_, N2.get (.tail _ (.head _)), rfl, _, rfl⟩ (.cons _ _ (.cons _ _ .nil)) ⟨_, N2.get (.head _), rfl, _, rfl⟩ (.cons _ _ (.cons _ _ .nil)) (by show A.units + 64 < 9900; walk_at "om") ?_
    rw [hp.1, hp.2, decide_eq_true (by rfl)]
    exact hQ h2 _ F2 fun p hp => N2 p (.tail _ (.tail _ hp))
  · iterate 10 walk1
    · iterate 9 walk1
      rw [if_pos (.inr ‹ls < 5›)] at hp
      refine newList_vals [.int ls _, .int 0 _] F N (fun q1 h2 F2 N2 l2 => ?_) (by simp)
      refine eq_intsK (vs := [.int (j : Nat) t1, .int (n : Nat) t2]) (us := [.int ls _, .int 0 _]) ⟨_, N2.get (.tail _ (.head _)), rfl, _, rfl⟩ (.cons _ _ (.cons _ _ .nil)) ⟨_, N2.get (.head _), rfl, _, rfl⟩ (.cons _ _ (.cons _ _ .nil)) (by show A.units + 64 < 9900; walk_at "om") ?_
      rw [hp.1, hp.2, decide_eq_true (by rfl)]
      exact hQ h2 _ F2 fun p hp => N2 p (.tail _ (.tail _ hp))
    · have nt : ¬ (t = 0 ∨ ls < 5) := by walk_at "om"
      rw [if_neg nt] at hp
      obtain ⟨rfl, hn⟩ := hp
      iterate 15 walk1
      have hpick : (PySem.slicePick #[Value.int (4 : Nat) t1, .int (n : Nat) t2] none (some 1) none).toList = [Value.int (4 : Nat) t1] := rfl
      refine kmk_slice_lit F N ⟨_, N.get (.head _), rfl, _, rfl⟩ .none (.int _ _) hpick (fun D h5 F5 N5 l5 => ?_) (by with_unfolding_all rfl) (by intro _; with_unfolding_all rfl) (by simp [sizeLine_eq])
      iterate 5 walk1
      (with_reducible rename Fr _ _ _ _ => F6)
      (with_reducible rename News _ _ _ _ => N6)
      refine eq_intsK (vs := [.int (4 : Nat) t1]) (us := [.int 4 _]) ⟨_, N6.get (.tail _ (.head _)), rfl, _, rfl⟩ (.cons _ _ .nil) ⟨_, N6.get (.head _), rfl, _, rfl⟩ (.cons _ _ .nil) (by show A.units + 64 < 9900; walk_at "om") ?_
      rw [decide_eq_true (by rfl)]
      iterate 1 walk1
      rw [if_pos rfl]
      iterate 8 walk1
      rw [show decide ((([((4 : Nat) : Int), (n : Int)] : List Int).getD (Int.toNat 1) 0) > 0) = true from decide_eq_true (show (n : Int) > 0 by walk_at "om")]
      exact hQ _ _ F6 fun p hp => N6 p (.tail _ (.tail _ (.tail _ hp)))
end
end
section
set_option maxRecDepth 100000
namespace Pl
noncomputable def Row (r : List Nat) : Prop := (∃ t, r = 46 :: t) ∧ ∀ c ∈ r, c ≠ 10 ∧ c ≠ 13
noncomputable def REnd (e : List Nat) : Prop := e = [10] ∨ e = [13] ∨ e = [13, 10]
inductive IsPage : List (List Nat) → List Nat → Prop
  | one {r : List Nat} : Row r → IsPage [r] r
  | more {r e t : List Nat} {rs : List (List Nat)} : Row r → REnd e → IsPage rs t → IsPage (r :: rs) (r ++ (e ++ t))
inductive IsW : List (List Nat) → List Nat → Prop
  | nil : IsW [] []
  | more {r e t : List Nat} {rs : List (List Nat)} : Row r → REnd e → IsW rs t → IsW (r :: rs) (r ++ (e ++ t))
theorem Row.dot {r : List Nat} (h : Row r) : Row (46 :: r) := ⟨⟨r, rfl⟩, fun c hc => by
  rcases List.mem_cons.mp hc with rfl | hc
  · decide
  · exact h.2 c hc⟩
theorem IsPage.ne {rs : List (List Nat)} {t : List Nat} (h : IsPage rs t) : rs ≠ [] := by cases h <;> simp
theorem IsPage.head {rs : List (List Nat)} {t : List Nat} (h : IsPage rs t) (x : List Nat) : (t ++ x).head? = some 46 := by
  cases h with
  | one h => obtain ⟨⟨u, rfl⟩, _⟩ := h; rfl
  | more h _ _ => obtain ⟨⟨u, rfl⟩, _⟩ := h; rfl
theorem IsPage.append {rs : List (List Nat)} {t : List Nat} (h : IsPage rs t) : ∀ {us : List (List Nat)} {e u : List Nat}, REnd e → IsPage us u → IsPage (rs ++ us) (t ++ (e ++ u)) := by
  induction h with
  | one h => intro us e u he hu; exact .more h he hu
  | more h he _ ih => intro us e u he' hu; rw [List.append_assoc, List.append_assoc]; exact .more h he (ih he' hu)
theorem IsPage.whole {rs : List (List Nat)} {t : List Nat} (h : IsPage rs t) : ∀ {us : List (List Nat)} {e u : List Nat}, REnd e → IsW us u → IsW (rs ++ us) (t ++ (e ++ u)) := by
  induction h with
  | one h => intro us e u he hu; exact .more h he hu
  | more h he _ ih => intro us e u he' hu; rw [List.append_assoc, List.append_assoc]; exact .more h he (ih he' hu)
theorem IsW.append {rs : List (List Nat)} {t : List Nat} (h : IsW rs t) : ∀ {us : List (List Nat)} {e u : List Nat}, REnd e → IsPage us u → IsW (rs ++ us) (t ++ (u ++ e)) := by
  induction h with
  | nil =>
    intro us e u he hu
    have := hu.whole he .nil
    rw [List.append_nil, List.append_nil] at this
    exact this
  | more h he _ ih => intro us e u he' hu; rw [List.append_assoc, List.append_assoc]; exact .more h he (ih he' hu)
theorem norm_row : ∀ {r : List Nat} (x : List Nat), (∀ c ∈ r, c ≠ 10 ∧ c ≠ 13) → norm (r ++ x) = r ++ norm x
  | [], _, _ => rfl
  | c :: r, x, h => by
    rw [List.cons_append, norm_other _ _ (h c (.head _)).2 (h c (.head _)).1, norm_row x fun d hd => h d (.tail _ hd)]; rfl
theorem norm_end {e : List Nat} (he : REnd e) {x : List Nat} (hx : x.head? ≠ some 10) : norm (e ++ x) = [13, 10] ++ norm x := by
  rcases he with rfl | rfl | rfl
  · exact norm_10 _
  · exact norm_13 _ hx
  · exact norm_1310 _
theorem dots_plain : ∀ {r : List Nat} (x : List Nat), (∀ c ∈ r, c ≠ 10 ∧ c ≠ 13) → dots false (r ++ x) = r ++ dots false x
  | [], _, _ => rfl
  | c :: r, x, h => by
    have : (c == 10) = false := by simpa using (h c (.head _)).1
    rw [List.cons_append, dots_cons, if_neg (by simp), this, dots_plain x fun d hd => h d (.tail _ hd)]; rfl
theorem dots_row {r : List Nat} (x : List Nat) (h : Row r) : dots true (r ++ x) = 46 :: r ++ dots false x := by
  obtain ⟨⟨t, rfl⟩, h⟩ := h
  rw [List.cons_append, dots_cons, if_pos ⟨rfl, rfl⟩]
  show [46, 46] ++ dots false (t ++ x) = _
  rw [dots_plain x fun c hc => h c (.tail _ hc)]; rfl
theorem dots_end (x : List Nat) (b : Bool) : dots b (13 :: 10 :: x) = 13 :: 10 :: dots true x := by
  rw [dots_cons, if_neg (by simp)]
  show 13 :: dots false (10 :: x) = _
  rw [dots_cons, if_neg (by simp)]; rfl
theorem quote_page {rs : List (List Nat)} {t : List Nat} (h : IsPage rs t) : IsPage (rs.map (46 :: ·)) (quote t) := by
  induction h with
  | one h =>
    rename_i r
    have e : quote r = 46 :: r := by
      have := norm_row [] h.2
      rw [List.append_nil, norm_nil, List.append_nil] at this
      rw [quote, this]
      have := dots_row [] h
      rw [List.append_nil, dots_nil, List.append_nil] at this
      exact this
    rw [e]
    exact .one h.dot
  | more h he hp ih =>
    rename_i r e t rs
    have e : quote (r ++ (e ++ t)) = 46 :: r ++ ([13, 10] ++ quote t) := by
      have hd := hp.head []
      rw [List.append_nil] at hd
      rw [quote, norm_row _ h.2, norm_end he (by rw [hd]; decide), dots_row _ h]
      show _ ++ dots false (13 :: 10 :: norm t) = _
      rw [dots_end]; rfl
    rw [e]
    exact .more h.dot (.inr (.inr rfl)) ih
noncomputable def tailQ : List Nat := [13, 10, 46, 46, 13, 10, 34, 92, 34, 32, 34, 9, 35, 11, 46, 32, 92, 97]
theorem quote_tail : quote pgTail = tailQ := by
  unfold quote pgTail
  rw [norm_13 _ (by decide), norm_other 46 _ (by decide) (by decide), norm_13 _ (by decide)]
  iterate 12 rw [norm_other _ _ (by decide) (by decide)]
  rw [norm_nil]
  decide
noncomputable def rowsT (rs : List (List Nat)) : List Nat := rs.flatMap fun r => 46 :: r ++ [13, 10]
theorem quote_whole {rs : List (List Nat)} {t : List Nat} (h : IsW rs t) : quote (t ++ pgTail) = rowsT rs ++ tailQ ∧ (t ++ pgTail).head? ≠ some 10 := by
  induction h with
  | nil => exact ⟨quote_tail, by decide⟩
  | more h he hp ih =>
    rename_i r e t rs
    refine ⟨?_, ?_⟩
    · rw [List.append_assoc, List.append_assoc, quote, norm_row _ h.2, norm_end he ih.2, dots_row _ h]
      show _ ++ dots false (13 :: 10 :: norm (t ++ pgTail)) = _
      rw [dots_end]
      show _ ++ 13 :: 10 :: quote (t ++ pgTail) = _
      rw [ih.1]
      simp [rowsT, List.flatMap_cons]
    · obtain ⟨⟨u, rfl⟩, _⟩ := h
      simp
theorem IsPage.len {rs : List (List Nat)} {t : List Nat} (h : IsPage rs t) : ∀ {B : Nat}, (∀ r ∈ rs, r.length ≤ B) → t.length ≤ rs.length * (B + 2) := by
  induction h with
  | one h => intro B hB; have := hB _ (.head _); simp; (first | lia | omega)
  | more h he hp ih =>
    intro B hB
    have h1 := hB _ (.head _)
    have h2 := ih fun r hr => hB r (.tail _ hr)
    have h3 : ∀ {e}, REnd e → e.length ≤ 2 := by rintro e (rfl | rfl | rfl) <;> decide
    have := h3 he
    rw [List.length_append, List.length_append, List.length_cons, Nat.succ_mul]
    (first | lia | omega)
theorem IsW.len {rs : List (List Nat)} {t : List Nat} (h : IsW rs t) : ∀ {B : Nat}, (∀ r ∈ rs, r.length ≤ B) → t.length ≤ rs.length * (B + 2) := by
  induction h with
  | nil => intro B _; simp
  | more h he hp ih =>
    intro B hB
    have h1 := hB _ (.head _)
    have h2 := ih fun r hr => hB r (.tail _ hr)
    have h3 : ∀ {e}, REnd e → e.length ≤ 2 := by rintro e (rfl | rfl | rfl) <;> decide
    have := h3 he
    rw [List.length_append, List.length_append, List.length_cons, Nat.succ_mul]
    (first | lia | omega)
end Pl
end
section
set_option maxRecDepth 100000
namespace Pl
theorem lexI_app : ∀ (p x y : List Int), lexI (p ++ x) (p ++ y) = lexI x y
  | [], _, _ => rfl
  | a :: p, x, y => by rw [List.cons_append, List.cons_append, lexI_cons, if_pos rfl, lexI_app p x y]
theorem lexI_pre (p : List Int) (a : Int) (x : List Int) : lexI p (p ++ a :: x) = true := by
  have := lexI_app p [] (a :: x)
  rw [List.append_nil] at this
  rw [this]; rfl
theorem lexI_div (p : List Int) (a b : Int) (x y : List Int) (h : a < b) : lexI (p ++ a :: x) (p ++ b :: y) = true := by
  rw [lexI_app, lexI_cons, if_neg (by (first | lia | omega))]
  exact decide_eq_true h
theorem sorted_one {lt : Nat → Nat → Bool} {n : Nat} (hl : LtOk lt n) : ∀ {a b : List Nat}, a.Perm b → (∀ x ∈ a, x < n) → a.Pairwise (fun i j => lt i j = true) → b.Pairwise (fun i j => lt i j = true) → a = b
  | [], b, hp, _, _, _ => (List.perm_nil.mp hp.symm).symm
  | x :: a, [], hp, _, _, _ => absurd (List.perm_nil.mp hp) (by simp)
  | x :: a, y :: b, hp, hn, ha, hb => by
    have e : x = y := by
      have hx : x ∈ y :: b := hp.mem_iff.mp (.head _)
      have hy : y ∈ x :: a := hp.mem_iff.mpr (.head _)
      rcases List.mem_cons.mp hx with rfl | hx
      · rfl
      · rcases List.mem_cons.mp hy with rfl | hy
        · rfl
        · have h1 := (List.pairwise_cons.mp ha).1 y hy
          have h2 := (List.pairwise_cons.mp hb).1 x hx
          have nx := hn x (.head _)
          have ny := hn y (.tail _ hy)
          have := hl.trans x y x nx ny nx h1 h2
          rw [hl.irr x nx] at this
          cases this
    subst e
    rw [sorted_one hl ((List.perm_cons _).mp hp) (fun z hz => hn z (.tail _ hz)) (List.pairwise_cons.mp ha).2 (List.pairwise_cons.mp hb).2]
noncomputable abbrev path (b : Nat → Nat) (j : Nat) : List Int := (pths b 8).getD j []
noncomputable abbrev dep (b : Nat → Nat) (j : Nat) : Nat := (path b j).length
theorem pths_pre (b : Nat → Nat) : ∀ {n k j : Nat}, j < k → k ≤ n → (pths b n).getD j [] = (pths b k).getD j []
  | 0, k, j, h1, h2 => by (first | lia | omega)
  | n + 1, k, j, h1, h2 => by
    by_cases e : k = n + 1
    · rw [e]
    · rw [← pths_pre b h1 (show k ≤ n by (first | lia | omega)), pths_succ, List.getD_eq_getElem?_getD, List.getElem?_append_left (by rw [pths_len]; (first | lia | omega)), ← List.getD_eq_getElem?_getD]
theorem path_eq {b : Nat → Nat} (hb : ∀ k < 8, b k ≤ k) {j : Nat} (hj : j < 8) : path b j = (if b j = j then [] else path b (b j)) ++ [-(j : Int)] := by
  show (pths b 8).getD j [] = _
  rw [pths_pre b (Nat.lt_succ_self j) (show j + 1 ≤ 8 by (first | lia | omega)), pths_succ, List.getD_eq_getElem?_getD, List.getElem?_append_right (by rw [pths_len]; exact Nat.le_refl _), pths_len, Nat.sub_self]
  show (if b j = j then [] else (pths b j).getD (b j) []) ++ [-(j : Int)] = _
  by_cases e : b j = j
  · rw [if_pos e, if_pos e]
  · have := hb j hj
    rw [if_neg e, if_neg e, ← pths_pre b (show b j < j by (first | lia | omega)) (show j ≤ 8 by (first | lia | omega))]
theorem dep_pos {b : Nat → Nat} (hb : ∀ k < 8, b k ≤ k) {j : Nat} (hj : j < 8) : 1 ≤ dep b j := by
  show 1 ≤ (path b j).length
  rw [path_eq hb hj]; simp
theorem dep_le (b : Nat → Nat) (j : Nat) : dep b j ≤ 8 := by
  show ((pths b 8).getD j []).length ≤ 8
  rw [List.getD_eq_getElem?_getD]
  cases e : (pths b 8)[j]? with
  | none => exact Nat.zero_le _
  | some x => exact pths_le (List.mem_of_getElem? e)
noncomputable def ab (b : Nat → Nat) : Nat → (Nat → List Nat) × List Nat
  | 0 => (fun j => [j], [])
  | i + 1 => if b (7 - i) = 7 - i then ((ab b i).1, (ab b i).2 ++ (ab b i).1 (7 - i)) else (fun j => if j = b (7 - i) then (ab b i).1 j ++ (ab b i).1 (7 - i) else (ab b i).1 j, (ab b i).2)
theorem ab_succ (b : Nat → Nat) (i : Nat) : ab b (i + 1) = if b (7 - i) = 7 - i then ((ab b i).1, (ab b i).2 ++ (ab b i).1 (7 - i)) else (fun j => if j = b (7 - i) then (ab b i).1 j ++ (ab b i).1 (7 - i) else (ab b i).1 j, (ab b i).2) := rfl
noncomputable def escL (l : List Nat) : List Nat := l.flatMap fun c => if c = 32 ∨ c = 92 then [92, c] else [c]
noncomputable abbrev nmL (j : Nat) : List Nat := (nms.getD j Str.empty).cps.toList
noncomputable def row0 (j : Nat) : List Nat := 46 :: escL (nmL j)
noncomputable def rowN (n j : Nat) : List Nat := List.replicate n 46 ++ row0 j
theorem rowN_dot (n j : Nat) : 46 :: rowN n j = rowN (n + 1) j := by
  unfold rowN; rw [List.replicate_succ]; rfl
theorem row0_ok : ∀ j < 8, pS0.1 j = row0 j ∧ (row0 j).all (fun c => c != 10 && c != 13) = true ∧ (row0 j).length ≤ 10 := by decide +kernel
theorem rowN_row (n : Nat) {j : Nat} (hj : j < 8) : Row (rowN n j) := by
  have h0 : Row (row0 j) := ⟨⟨_, rfl⟩, fun c hc => by
    have := List.all_eq_true.mp (row0_ok j hj).2.1 c hc
    simpa using this⟩
  induction n with
  | zero => exact h0
  | succ n ih => rw [← rowN_dot]; exact ih.dot
theorem rowN_len (n : Nat) {j : Nat} (hj : j < 8) : (rowN n j).length ≤ n + 10 := by
  unfold rowN
  rw [List.length_append, List.length_replicate]
  have := (row0_ok j hj).2.2
  (first | lia | omega)
noncomputable def Bel (b : Nat → Nat) (p : List Int) (k0 x : Nat) : Prop := x < 8 ∧ ∃ c r, path b x = p ++ (-(c : Nat) : Int) :: r ∧ k0 ≤ c
structure Pg (b : Nat → Nat) (f : Nat → Int) (i : Nat) : Prop where
  pg : ∀ j < 8, IsPage (((ab b i).1 j).map fun x => rowN (dep b x - dep b j) x) ((pgSt f pS0 i).1 j)
  wh : IsW ((ab b i).2.map fun x => rowN (dep b x - 1) x) (pgSt f pS0 i).2
  bel : ∀ j < 8, ∀ x ∈ (ab b i).1 j, x = j ∨ Bel b (path b j) (8 - i) x
  belU : ∀ x ∈ (ab b i).2, Bel b [] (8 - i) x
  asc : ∀ j < 8, ((ab b i).1 j).Pairwise fun x y => pathLt b x y = true
  ascU : (ab b i).2.Pairwise fun x y => pathLt b x y = true
  perm : ((ab b i).2 ++ (List.range (8 - i)).flatMap (ab b i).1).Perm (List.range 8)
  len : ∀ j < 8, ((ab b i).1 j).length ≤ 8
theorem flat_congr {α : Type} {F G : α → List Nat} : ∀ {l : List α}, (∀ x ∈ l, F x = G x) → l.flatMap F = l.flatMap G
  | [], _ => rfl
  | x :: l, h => by rw [List.flatMap_cons, List.flatMap_cons, h x (.head _), flat_congr fun y hy => h y (.tail _ hy)]
theorem flat_upd {T : Nat → List Nat} {X : List Nat} {c : Nat} : ∀ {k : Nat}, c < k → ((List.range k).flatMap fun j => if j = c then T j ++ X else T j).Perm ((List.range k).flatMap T ++ X)
  | 0, h => absurd h (Nat.not_lt_zero _)
  | k + 1, h => by
    rw [List.range_succ, List.flatMap_append, List.flatMap_append, List.flatMap_singleton, List.flatMap_singleton]
    by_cases e : c = k
    · subst e
      rw [if_pos rfl, List.append_assoc]
      refine List.Perm.append_right _ (.of_eq ?_)
      refine flat_congr fun j hj => if_neg ?_
      have := List.mem_range.mp hj
      (first | lia | omega)
    · rw [if_neg (fun q => e q.symm)]
      have ih := flat_upd (T := T) (X := X) (show c < k by (first | lia | omega))
      refine (ih.append_right _).trans ?_
      rw [List.append_assoc, List.append_assoc]
      exact List.Perm.append_left _ List.perm_append_comm
theorem bel_dep {b : Nat → Nat} {j k0 x : Nat} (h : x = j ∨ Bel b (path b j) k0 x) : dep b j ≤ dep b x := by
  rcases h with rfl | ⟨_, c, r, e, _⟩
  · exact Nat.le_refl _
  · show _ ≤ (path b x).length
    rw [e, List.length_append]; exact Nat.le_add_right _ _
theorem bel_lt {b : Nat → Nat} {j k0 x : Nat} (hj : j < 8) (h : x = j ∨ Bel b (path b j) k0 x) : x < 8 := by
  rcases h with rfl | h
  · exact hj
  · exact h.1
theorem endOf_ok (f : Nat → Int) (k : Nat) : REnd (endOf f k) := by
  unfold endOf REnd
  split
  · exact .inl rfl
  · split
    · exact .inr (.inl rfl)
    · exact .inr (.inr rfl)
theorem pg_step {b : Nat → Nat} {f : Nat → Int} (hb : ∀ k < 8, b k ≤ k) (hf : bossOf f = b) {i : Nat} (hi : i < 8) (P : Pg b f i) : Pg b f (i + 1) := by
  obtain ⟨k, hk, hk8⟩ : ∃ k, 7 - i = k ∧ k < 8 := ⟨_, rfl, by (first | lia | omega)⟩
  have e8 : 8 - i = k + 1 := by (first | lia | omega)
  have e8' : 8 - (i + 1) = k := by (first | lia | omega)
  have perm := P.perm
  rw [e8, List.range_succ, List.flatMap_append, List.flatMap_singleton] at perm
  have pk := P.pg k hk8
  have bk := P.bel k hk8
  rw [e8] at bk
  have bel := P.bel
  rw [e8] at bel
  have belU := P.belU
  rw [e8] at belU
  have ble := hb k hk8
  have pe := path_eq hb hk8
  have weak : ∀ {p x}, Bel b p (k + 1) x → Bel b p k x := fun ⟨h, c, r, e, hc⟩ => ⟨h, c, r, e, by (first | lia | omega)⟩
  by_cases e : b k = k
  · have ea : ab b (i + 1) = ((ab b i).1, (ab b i).2 ++ (ab b i).1 k) := by rw [ab_succ, hk, if_pos e]
    have ep : pgSt f pS0 (i + 1) = ((pgSt f pS0 i).1, (pgSt f pS0 i).2 ++ ((pgSt f pS0 i).1 k ++ endOf f k)) := by
      rw [pgSt_succ, hk, pgStep, hf, if_pos e]
    rw [if_pos e, List.nil_append] at pe
    have dk : dep b k = 1 := by show (path b k).length = 1; rw [pe]; rfl
    have belk : ∀ x ∈ (ab b i).1 k, Bel b [] k x ∧ ∃ r, path b x = -(k : Int) :: r := fun x hx => by
      rcases bk x hx with rfl | ⟨h8, c, r, ex, hc⟩
      · exact ⟨⟨hk8, x, [], pe, Nat.le_refl _⟩, [], pe⟩
      · rw [pe] at ex
        exact ⟨⟨h8, k, _, ex, Nat.le_refl _⟩, _, ex⟩
    refine ⟨?_, ?_, ?_, ?_, ?_, ?_, ?_, ?_⟩
    · rw [ea, ep]; exact P.pg
    · rw [ea, ep, List.map_append]
      refine P.wh.append (endOf_ok _ _) ?_
      rw [dk] at pk
      exact pk
    · rw [ea, e8']; exact fun j hj x hx => (bel j hj x hx).imp id weak
    · rw [ea, e8']
      intro x hx
      rcases List.mem_append.mp hx with hx | hx
      · exact weak (belU x hx)
      · exact (belk x hx).1
    · rw [ea]; exact P.asc
    · rw [ea]
      refine List.pairwise_append.mpr ⟨P.ascU, P.asc k hk8, fun x hx y hy => ?_⟩
      obtain ⟨_, c, r, ex, hc⟩ := belU x hx
      obtain ⟨_, r', ey⟩ := belk y hy
      show lexI (path b x) (path b y) = true
      rw [ex, ey]
      exact lexI_div [] _ _ _ _ (by (first | lia | omega))
    · rw [ea, e8']
      refine List.Perm.trans ?_ perm
      rw [List.append_assoc]
      exact List.Perm.append_left _ List.perm_append_comm
    · rw [ea]; exact P.len
  · obtain ⟨c, hc, hck⟩ : ∃ c, b k = c ∧ c < k := ⟨_, rfl, by (first | lia | omega)⟩
    have c8 : c < 8 := by (first | lia | omega)
    have ea : ab b (i + 1) = (fun j => if j = c then (ab b i).1 j ++ (ab b i).1 k else (ab b i).1 j, (ab b i).2) := by rw [ab_succ, hk, if_neg e, hc]
    have ep : pgSt f pS0 (i + 1) = (fun j => if j = c then (pgSt f pS0 i).1 j ++ (endOf f k ++ quote ((pgSt f pS0 i).1 k)) else (pgSt f pS0 i).1 j, (pgSt f pS0 i).2) := by
      rw [pgSt_succ, hk, pgStep, hf, if_neg e, hc]
    rw [if_neg e, hc] at pe
    have dk : dep b k = dep b c + 1 := by show (path b k).length = (path b c).length + 1; rw [pe, List.length_append]; rfl
    have belk : ∀ x ∈ (ab b i).1 k, Bel b (path b c) k x ∧ ∃ r, path b x = path b c ++ -(k : Int) :: r := fun x hx => by
      rcases bk x hx with rfl | ⟨h8, c', r, ex, hc'⟩
      · exact ⟨⟨hk8, x, [], pe, Nat.le_refl _⟩, [], pe⟩
      · rw [pe, List.append_assoc] at ex
        exact ⟨⟨h8, k, _, ex, Nat.le_refl _⟩, _, ex⟩
    refine ⟨?_, ?_, ?_, ?_, ?_, ?_, ?_, ?_⟩
    · rw [ea, ep]
      intro j hj
      by_cases q : j = c
      · subst q
        simp only [if_true]
        rw [List.map_append]
        refine (P.pg j hj).append (endOf_ok _ _) ?_
        have := quote_page pk
        rw [List.map_map] at this
        have em : ((ab b i).1 k).map ((46 :: ·) ∘ fun x => rowN (dep b x - dep b k) x) = ((ab b i).1 k).map fun x => rowN (dep b x - dep b j) x := by
          refine List.map_congr_left fun x hx => ?_
          have := bel_dep (bk x hx)
          show 46 :: rowN _ _ = _
          rw [rowN_dot, show dep b x - dep b k + 1 = dep b x - dep b j by (first | lia | omega)]
        rw [em] at this
        exact this
      · simp only [if_neg q]
        exact P.pg j hj
    · rw [ea, ep]; exact P.wh
    · rw [ea, e8']
      intro j hj x hx
      by_cases q : j = c
      · subst q
        simp only [if_true] at hx
        rcases List.mem_append.mp hx with hx | hx
        · exact (bel j hj x hx).imp id weak
        · exact .inr (belk x hx).1
      · simp only [if_neg q] at hx
        exact (bel j hj x hx).imp id weak
    · rw [ea, e8']; exact fun x hx => weak (belU x hx)
    · rw [ea]
      intro j hj
      by_cases q : j = c
      · subst q
        simp only [if_true]
        refine List.pairwise_append.mpr ⟨P.asc j hj, P.asc k hk8, fun x hx y hy => ?_⟩
        obtain ⟨_, r', ey⟩ := belk y hy
        show lexI (path b x) (path b y) = true
        rw [ey]
        rcases bel j hj x hx with rfl | ⟨_, c', r, ex, hc'⟩
        · exact lexI_pre _ _ _
        · rw [ex]
          exact lexI_div _ _ _ _ _ (by (first | lia | omega))
      · simp only [if_neg q]
        exact P.asc j hj
    · rw [ea]; exact P.ascU
    · rw [ea, e8']
      refine List.Perm.trans ?_ perm
      exact List.Perm.append_left _ (flat_upd hck)
    · rw [ea]
      intro j hj
      by_cases q : j = c
      · subst q
        simp only [if_true]
        have h1 := perm.length_eq
        have h2 := (flat_upd (T := (ab b i).1) (X := (ab b i).1 k) hck).length_eq
        have h3 : ∀ {k : Nat}, j < k → ((ab b i).1 j).length + ((ab b i).1 (7 - i)).length ≤ ((List.range k).flatMap fun y => if y = j then (ab b i).1 y ++ (ab b i).1 (7 - i) else (ab b i).1 y).length := by
          intro k hjk
          induction k with
          | zero => (first | lia | omega)
          | succ k ih =>
            rw [List.range_succ, List.flatMap_append, List.flatMap_singleton, List.length_append]
            by_cases z : j = k
            · subst z; rw [if_pos rfl, List.length_append]; (first | lia | omega)
            · have := ih (by (first | lia | omega)); (first | lia | omega)
        have h4 := h3 hck
        rw [hk] at h4
        rw [List.length_append, List.length_range] at h1
        rw [List.length_append]
        (first | lia | omega)
      · simp only [if_neg q]
        exact P.len j hj
theorem pg_zero (b : Nat → Nat) (f : Nat → Int) : Pg b f 0 where
  pg j hj := by
    show IsPage [rowN (dep b j - dep b j) j] (pS0.1 j)
    rw [Nat.sub_self, (row0_ok j hj).1]
    exact .one (rowN_row 0 hj)
  wh := .nil
  bel j _ x hx := .inl (List.mem_singleton.mp hx)
  belU x hx := by cases hx
  asc j _ := List.pairwise_singleton _ _
  ascU := .nil
  perm := by
    show ((List.range 8).flatMap fun j => [j]).Perm (List.range 8)
    decide
  len j _ := by show 1 ≤ 8; decide
theorem pg_all {b : Nat → Nat} {f : Nat → Int} (hb : ∀ k < 8, b k ≤ k) (hf : bossOf f = b) : ∀ {i : Nat}, i ≤ 8 → Pg b f i
  | 0, _ => pg_zero b f
  | i + 1, h => pg_step hb hf (show i < 8 by (first | lia | omega)) (pg_all hb hf (show i ≤ 8 by (first | lia | omega)))
theorem boss_le (f : Nat → Int) : ∀ k < 8, bossOf f k ≤ k := fun k _ => bossOf_le f k
theorem pg_sizes (f : Nat → Int) : ∀ i ≤ 8, (∀ j < 8, ((pgSt f pS0 i).1 j).length ≤ 100000) ∧ (pgSt f pS0 i).2.length ≤ 100000 := fun i hi => by
  have P := pg_all (boss_le f) rfl hi
  refine ⟨fun j hj => ?_, ?_⟩
  · have := (P.pg j hj).len (B := 18) fun r hr => by
      obtain ⟨x, hx, rfl⟩ := List.mem_map.mp hr
      have h8 := bel_lt hj (P.bel j hj x hx)
      have := rowN_len (dep (bossOf f) x - dep (bossOf f) j) h8
      have := dep_le (bossOf f) x
      (first | lia | omega)
    rw [List.length_map] at this
    have := P.len j hj
    (first | lia | omega)
  · have := P.wh.len (B := 18) fun r hr => by
      obtain ⟨x, hx, rfl⟩ := List.mem_map.mp hr
      have h8 := (P.belU x hx).1
      have := rowN_len (dep (bossOf f) x - 1) h8
      have := dep_le (bossOf f) x
      (first | lia | omega)
    rw [List.length_map] at this
    have h1 := P.perm.length_eq
    rw [List.length_append, List.length_range] at h1
    (first | lia | omega)
theorem page_text (f : Nat → Int) {js : List Nat} (hp : js.Perm (List.range 8)) (hs : js.Pairwise fun i j => pathLt (bossOf f) i j = true) :
    pageT f = (js.flatMap fun x => List.replicate (dep (bossOf f) x + 1) 46 ++ escL (nmL x) ++ [13, 10]) ++ tailQ := by
  have P := pg_all (boss_le f) rfl (Nat.le_refl 8)
  have hU : ((ab (bossOf f) 8).2).Perm (List.range 8) := by
    have := P.perm
    simpa using this
  have e : (ab (bossOf f) 8).2 = js := sorted_one (pathLt_ok _) (hU.trans hp.symm) (fun x hx => (P.belU x hx).1) P.ascU hs
  have := (quote_whole P.wh).1
  rw [pageT, this, e]
  congr 1
  rw [rowsT, List.flatMap_map]
  refine flat_congr fun x hx => ?_
  have h8 : x < 8 := List.mem_range.mp (hp.mem_iff.mp hx)
  have := dep_pos (boss_le f) h8
  show 46 :: rowN _ _ ++ _ = _
  rw [rowN_dot, show dep (bossOf f) x - 1 + 1 = dep (bossOf f) x by (first | lia | omega), rowN, row0, List.replicate_succ']
  simp
end Pl
end
section
set_option maxRecDepth 100000
namespace Pl
noncomputable def fz : List Nat → Int
  | [] => 0
  | c :: r => (if c = 10 then 1 else 0) + fz r
theorem fz_cons (c : Nat) (r : List Nat) : fz (c :: r) = (if c = 10 then 1 else 0) + fz r := rfl
theorem feeds_fz : ∀ l : List (Nat × Tok), feeds l = fz (l.map (·.1))
  | [] => rfl
  | p :: r => by rw [feeds, List.map_cons, fz_cons, feeds_fz r]
theorem fz_app : ∀ x y : List Nat, fz (x ++ y) = fz x + fz y
  | [], y => (Int.zero_add _).symm
  | c :: x, y => by rw [List.cons_append, fz_cons, fz_cons, fz_app x y, Int.add_assoc]
theorem fz_none : ∀ {x : List Nat}, (∀ c ∈ x, c ≠ 10) → fz x = 0
  | [], _ => rfl
  | c :: x, h => by rw [fz_cons, if_neg (h c (.head _)), fz_none fun d hd => h d (.tail _ hd)]; rfl
theorem map_cons_inv {l : List (Nat × Tok)} {c : Nat} {r : List Nat} (h : l.map (·.1) = c :: r) : ∃ t l', l = (c, t) :: l' ∧ l'.map (·.1) = r := by
  cases l with
  | nil => cases h
  | cons p l =>
    rw [List.map_cons] at h
    injection h with h1 h2
    exact ⟨p.2, l, by rw [← h1], h2⟩
theorem ws_no {c : Nat} (h : c ≠ 10 ∧ c ≠ 9 ∧ c ≠ 13) (h2 : c ≠ 32) : isWs c = false := by
  unfold isWs
  refine decide_eq_false fun q => ?_
  simp only [List.mem_cons, List.not_mem_nil, or_false] at q
  (first | lia | omega)
theorem bare_row : ∀ (cs : List Nat) {l : List (Nat × Tok)} {acc rest : List Nat}, (∀ c ∈ cs, c ≠ 10 ∧ c ≠ 9 ∧ c ≠ 13) → l.map (·.1) = escL cs ++ 13 :: rest → ∃ r, bare l acc = (acc ++ cs, r) ∧ r.map (·.1) = rest
  | [], l, acc, rest, _, h => by
    obtain ⟨t, r, rfl, hr⟩ := map_cons_inv h
    refine ⟨r, ?_, hr⟩
    rw [bare_cons, if_pos (by decide : isWs 13 = true), List.append_nil]
  | c :: cs, l, acc, rest, hc, h => by
    have h0 := hc c (.head _)
    rw [escL, List.flatMap_cons] at h
    by_cases q : c = 32 ∨ c = 92
    · rw [if_pos q] at h
      obtain ⟨t, l1, rfl, h1⟩ := map_cons_inv h
      obtain ⟨t2, l2, rfl, h2⟩ := map_cons_inv h1
      obtain ⟨r, e, hr⟩ := bare_row cs (acc := acc ++ [c]) (fun d hd => hc d (.tail _ hd)) h2
      refine ⟨r, ?_, hr⟩
      rw [bare_cons, if_neg (by decide : ¬ isWs 92 = true), if_pos rfl]
      show bare l2 (acc ++ [c]) = _
      rw [e, List.append_assoc]; rfl
    · rw [if_neg q] at h
      obtain ⟨t, l1, rfl, h1⟩ := map_cons_inv h
      obtain ⟨r, e, hr⟩ := bare_row cs (acc := acc ++ [c]) (fun d hd => hc d (.tail _ hd)) h1
      refine ⟨r, ?_, hr⟩
      rw [bare_cons, if_neg (by rw [ws_no h0 (by (first | lia | omega))]; decide), if_neg (by show c ≠ 92; (first | lia | omega)), e, List.append_assoc]; rfl
theorem escL_dots : ∀ (n : Nat) (cs : List Nat), escL (List.replicate n 46 ++ cs) = List.replicate n 46 ++ escL cs
  | 0, cs => rfl
  | n + 1, cs => by
    rw [List.replicate_succ, List.cons_append, escL, List.flatMap_cons, if_neg (by decide)]
    show 46 :: escL _ = _
    rw [escL_dots n cs]; rfl
theorem word_row {l : List (Nat × Tok)} {n : Nat} {cs rest : List Nat} (hc : ∀ c ∈ cs, c ≠ 10 ∧ c ≠ 9 ∧ c ≠ 13) (h : l.map (·.1) = List.replicate (n + 1) 46 ++ escL cs ++ 13 :: rest) :
    (word l).1 = List.replicate (n + 1) 46 ++ cs ∧ (word l).2.map (·.1) = rest := by
  rw [List.replicate_succ] at h
  obtain ⟨t, l1, rfl, h1⟩ := map_cons_inv h
  have h1 : l1.map (·.1) = escL (List.replicate n 46 ++ cs) ++ 13 :: rest := by rw [h1, escL_dots]; rfl
  obtain ⟨r, e, hr⟩ := bare_row (List.replicate n 46 ++ cs) (acc := [46]) (fun d hd => by
    rcases List.mem_append.mp hd with hd | hd
    · rw [(List.mem_replicate.mp hd).2]; decide
    · exact hc d hd) h1
  rw [word_cons, if_neg (by decide : ¬ isWs 46 = true), if_neg (by decide : ¬ (46 : Nat) = 34), if_neg (by decide : ¬ (46 : Nat) = 92), e]
  exact ⟨by rw [List.replicate_succ]; rfl, hr⟩
theorem word_lf {l : List (Nat × Tok)} {n : Nat} {cs rest : List Nat} (hc : ∀ c ∈ cs, c ≠ 10 ∧ c ≠ 9 ∧ c ≠ 13) (h : l.map (·.1) = 10 :: (List.replicate (n + 1) 46 ++ escL cs ++ 13 :: rest)) :
    (word l).1 = List.replicate (n + 1) 46 ++ cs ∧ (word l).2.map (·.1) = rest := by
  obtain ⟨t, l1, rfl, h1⟩ := map_cons_inv h
  rw [word_cons, if_pos (by decide : isWs 10 = true)]
  exact word_row hc h1
theorem nm_ok : ∀ j < 8, (nmL j).all (fun c => c != 10 && c != 9 && c != 13) = true ∧ (escL (nmL j)).all (fun c => c != 10 && c != 13) = true ∧ (escL (nmL j)).length ≤ 10 := by decide +kernel
theorem nm_no {j : Nat} (hj : j < 8) : ∀ c ∈ nmL j, c ≠ 10 ∧ c ≠ 9 ∧ c ≠ 13 := fun c hc => by
  have := List.all_eq_true.mp (nm_ok j hj).1 c hc
  simp at this
  (first | lia | omega)
section
variable {b : Nat → Nat}
noncomputable def txt (b : Nat → Nat) (ks : List Nat) : List Nat := (ks.flatMap fun x => List.replicate (dep b x + 1) 46 ++ escL (nmL x) ++ [13, 10]) ++ tailQ
theorem txt_cons (x : Nat) (ks : List Nat) : txt b (x :: ks) = List.replicate (dep b x + 1) 46 ++ escL (nmL x) ++ 13 :: 10 :: txt b ks := by
  unfold txt; rw [List.flatMap_cons]; simp
theorem line_no {n j : Nat} (hj : j < 8) : ∀ c ∈ List.replicate n 46 ++ escL (nmL j), c ≠ 10 ∧ c ≠ 13 := fun c hc => by
  rcases List.mem_append.mp hc with hc | hc
  · rw [(List.mem_replicate.mp hc).2]; decide
  · have := List.all_eq_true.mp (nm_ok j hj).2.1 c hc
    simpa using this
theorem fz_txt : ∀ {ks : List Nat}, (∀ x ∈ ks, x < 8) → fz (txt b ks) = ks.length + 2
  | [], _ => by
    show fz tailQ = _
    rw [show fz tailQ = 2 by decide]; simp
  | x :: ks, h => by
    rw [txt_cons, fz_app, fz_none fun c hc => (line_no (h x (.head _)) c hc).1, fz_cons, if_neg (by decide), fz_cons, if_pos rfl, fz_txt fun y hy => h y (.tail _ hy), List.length_cons]
    (first | lia | omega)
theorem txt_len : ∀ {ks : List Nat}, (∀ x ∈ ks, x < 8) → (txt b ks).length ≤ ks.length * 30 + 18
  | [], _ => by show tailQ.length ≤ 0 * 30 + 18; decide
  | x :: ks, h => by
    have h1 := txt_len fun y hy => h y (.tail _ hy)
    have h2 := (nm_ok x (h x (.head _))).2.2
    have h3 := dep_le b x
    rw [txt_cons, List.length_append, List.length_append, List.length_replicate, List.length_cons, List.length_cons, List.length_cons]
    (first | lia | omega)
theorem rdw_codes {signs : List (Nat × Tok)} {js : List Nat} (h8 : ∀ x ∈ js, x < 8) (h : signs.map (·.1) = txt b js) : ∀ i, i ≤ js.length → (rdw signs i).map (·.1) = (if i = 0 then [] else [10]) ++ txt b (js.drop i) ∧
    ∀ hi : i < js.length, (word (rdw signs i)).1 = List.replicate (dep b js[i] + 1) 46 ++ nmL js[i]
  | 0, _ => by
    refine ⟨h, fun hi => ?_⟩
    cases js with
    | nil => cases hi
    | cons x js => rw [txt_cons] at h; exact (word_row (nm_no (h8 x (.head _))) h).1
  | i + 1, hi => by
    have ih := (rdw_codes h8 h i (by (first | lia | omega))).1
    have e : js.drop i = js[i] :: js.drop (i + 1) := List.drop_eq_getElem_cons (by (first | lia | omega))
    have x8 := h8 js[i] (List.getElem_mem _)
    have hn : (rdw signs (i + 1)).map (·.1) = 10 :: txt b (js.drop (i + 1)) := by
      rw [e, txt_cons] at ih
      by_cases z : i = 0
      · rw [if_pos z] at ih; exact (word_row (nm_no x8) ih).2
      · rw [if_neg z] at ih; exact (word_lf (nm_no x8) ih).2
    refine ⟨by rw [hn, if_neg (Nat.succ_ne_zero _)]; rfl, fun hi' => ?_⟩
    have e2 : js.drop (i + 1) = js[i + 1] :: js.drop (i + 1 + 1) := List.drop_eq_getElem_cons hi'
    rw [e2, txt_cons] at hn
    exact (word_lf (nm_no (h8 _ (List.getElem_mem _))) hn).1
theorem words_ok {signs : List (Nat × Tok)} {js : List Nat} (hp : js.Perm (List.range 8)) (h : signs.map (·.1) = txt b js) (i : Nat) (hi : i < js.length) :
    (word (rdw signs i)).1 = List.replicate (dep b js[i] + 1) 46 ++ nmL js[i] ∧ feeds (rdw signs (i + 1)) + i = feeds signs ∧ (rdw signs i).length ≤ 900000 := by
  have h8 : ∀ x ∈ js, x < 8 := fun x hx => List.mem_range.mp (hp.mem_iff.mp hx)
  have l8 : js.length = 8 := by rw [hp.length_eq]; rfl
  have c0 := rdw_codes h8 h i (by (first | lia | omega))
  have c1 := rdw_codes h8 h (i + 1) hi
  have hd : ∀ n, ∀ x ∈ js.drop n, x < 8 := fun n x hx => h8 x (List.mem_of_mem_drop hx)
  refine ⟨c0.2 hi, ?_, ?_⟩
  · rw [feeds_fz, feeds_fz, h, c1.1, if_neg (Nat.succ_ne_zero _), fz_app, fz_txt (hd _), fz_txt h8, List.length_drop]
    rw [show fz [10] = 1 by decide]
    (first | lia | omega)
  · have := congrArg List.length c0.1
    rw [List.length_map, List.length_append] at this
    have h2 := txt_len (b := b) (hd i)
    rw [List.length_drop] at h2
    have : (if i = 0 then ([] : List Nat) else [10]).length ≤ 1 := by split <;> decide
    (first | lia | omega)
/-! the lexer on the codes alone -/
noncomputable def bareC : List Nat → List Nat → List Nat × List Nat
  | [], acc => (acc, [])
  | [c], acc => if isWs c = true then (acc, []) else if c = 92 then (acc, []) else (acc ++ [c], [])
  | c :: d :: r, acc => if isWs c = true then (acc, d :: r) else if c = 92 then bareC r (acc ++ [d]) else bareC (d :: r) (acc ++ [c])
theorem bareC_one (c : Nat) (acc : List Nat) : bareC [c] acc = if isWs c = true then (acc, []) else if c = 92 then (acc, []) else (acc ++ [c], []) := rfl
theorem bareC_two (c d : Nat) (r acc : List Nat) : bareC (c :: d :: r) acc = if isWs c = true then (acc, d :: r) else if c = 92 then bareC r (acc ++ [d]) else bareC (d :: r) (acc ++ [c]) := rfl
noncomputable def quotedC : List Nat → List Nat → List Nat × List Nat
  | [], acc => (acc, [])
  | [c], acc => if c = 34 then (acc, []) else if c = 92 then (acc, []) else (acc ++ [c], [])
  | c :: d :: r, acc => if c = 34 then (acc, d :: r) else if c = 92 then quotedC r (acc ++ [d]) else quotedC (d :: r) (acc ++ [c])
theorem quotedC_one (c : Nat) (acc : List Nat) : quotedC [c] acc = if c = 34 then (acc, []) else if c = 92 then (acc, []) else (acc ++ [c], []) := rfl
theorem quotedC_two (c d : Nat) (r acc : List Nat) : quotedC (c :: d :: r) acc = if c = 34 then (acc, d :: r) else if c = 92 then quotedC r (acc ++ [d]) else quotedC (d :: r) (acc ++ [c]) := rfl
noncomputable def escB : List Nat → List Nat × List Nat
  | [] => ([], [])
  | d :: r => bareC r [d]
noncomputable def wordC : List Nat → List Nat × List Nat
  | [] => ([], [])
  | c :: r => if isWs c = true then wordC r else if c = 34 then quotedC r [] else if c = 92 then escB r else bareC r [c]
theorem wordC_cons (c : Nat) (r : List Nat) : wordC (c :: r) = if isWs c = true then wordC r else if c = 34 then quotedC r [] else if c = 92 then escB r else bareC r [c] := rfl
noncomputable def cds (p : List Nat × List (Nat × Tok)) : List Nat × List Nat := (p.1, p.2.map (·.1))
theorem bare_cds : ∀ (l : List (Nat × Tok)) (acc : List Nat), cds (bare l acc) = bareC (l.map (·.1)) acc
  | [], acc => by rw [bare_nil]; rfl
  | [p], acc => by
    rw [bare_cons, List.map_cons, List.map_nil, bareC_one, apply_ite cds, apply_ite cds, List.tail_nil, bare_nil, bare_nil]
    rw [show (rcV ([] : List (Nat × Tok))).cps.toList = [] from rfl, List.append_nil]; rfl
  | p :: q :: r, acc => by
    rw [bare_cons, List.map_cons, List.map_cons, bareC_two, apply_ite cds, apply_ite cds, bare_cds (q :: r), List.tail_cons, bare_cds r]; rfl
theorem quoted_cds : ∀ (l : List (Nat × Tok)) (acc : List Nat), cds (quoted l acc) = quotedC (l.map (·.1)) acc
  | [], acc => by rw [quoted_nil]; rfl
  | [p], acc => by
    rw [quoted_cons, List.map_cons, List.map_nil, quotedC_one, apply_ite cds, apply_ite cds, List.tail_nil, quoted_nil, quoted_nil]
    rw [show (rcV ([] : List (Nat × Tok))).cps.toList = [] from rfl, List.append_nil]; rfl
  | p :: q :: r, acc => by
    rw [quoted_cons, List.map_cons, List.map_cons, quotedC_two, apply_ite cds, apply_ite cds, quoted_cds (q :: r), List.tail_cons, quoted_cds r]; rfl
theorem word_cds : ∀ l : List (Nat × Tok), cds (word l) = wordC (l.map (·.1))
  | [] => rfl
  | p :: r => by
    rw [word_cons, List.map_cons, wordC_cons, apply_ite cds, apply_ite cds, apply_ite cds, word_cds r, quoted_cds, bare_cds, bare_cds]
    cases r with
    | nil => rfl
    | cons q r => rfl
theorem word_at {l : List (Nat × Tok)} {c w r : List Nat} (h : l.map (·.1) = c) (e : wordC c = (w, r)) : (word l).1 = w ∧ (word l).2.map (·.1) = r := by
  have := word_cds l
  rw [h, e] at this
  exact ⟨congrArg Prod.fst this, congrArg Prod.snd this⟩
theorem len_at {l : List (Nat × Tok)} {c : List Nat} (h : l.map (·.1) = c) (e : c.length ≤ 100) : l.length ≤ 900000 := by
  rw [← List.length_map (f := fun p : Nat × Tok => p.1), h]; exact Nat.le_trans e (by decide)
theorem tail_ok {signs : List (Nat × Tok)} {js : List Nat} (hp : js.Perm (List.range 8)) (h : signs.map (·.1) = txt b js) :
    (∀ i, (hi : i < 5) → (word (rdw signs (8 + i))).1 = (tk5s.getD i Str.empty).cps.toList ∧ (rdw signs (8 + i)).length ≤ 900000) ∧ feeds (rdw signs 8) = 3 ∧ rdw signs 13 = [] := by
  have h8 : ∀ x ∈ js, x < 8 := fun x hx => List.mem_range.mp (hp.mem_iff.mp hx)
  have l8 : js.length = 8 := by rw [hp.length_eq]; rfl
  have c8 := (rdw_codes h8 h 8 (by (first | lia | omega))).1
  rw [if_neg (by decide), List.drop_of_length_le (by (first | lia | omega))] at c8
  have c8 : (rdw signs 8).map (·.1) = [10, 13, 10, 46, 46, 13, 10, 34, 92, 34, 32, 34, 9, 35, 11, 46, 32, 92, 97] := c8
  have w8 := word_at (w := [46, 46]) (r := [10, 34, 92, 34, 32, 34, 9, 35, 11, 46, 32, 92, 97]) c8 (by decide)
  have w9 := word_at (l := rdw signs 9) (w := [34, 32]) (r := [9, 35, 11, 46, 32, 92, 97]) w8.2 (by decide)
  have w10 := word_at (l := rdw signs 10) (w := [35, 11, 46]) (r := [92, 97]) w9.2 (by decide)
  have w11 := word_at (l := rdw signs 11) (w := [97]) (r := []) w10.2 (by decide)
  have w12 := word_at (l := rdw signs 12) (w := []) (r := []) w11.2 (by decide)
  refine ⟨fun i hi => ?_, by rw [feeds_fz, c8]; decide, List.map_eq_nil_iff.mp w12.2⟩
  revert i
  exact lt5 ⟨w8.1.trans (by decide +kernel), len_at c8 (by decide)⟩
    ⟨w9.1.trans (by decide +kernel), len_at (l := rdw signs 9) w8.2 (by decide)⟩
    ⟨w10.1.trans (by decide +kernel), len_at (l := rdw signs 10) w9.2 (by decide)⟩
    ⟨w11.1.trans (by decide +kernel), len_at (l := rdw signs 11) w10.2 (by decide)⟩
    ⟨w12.1.trans (by decide +kernel), len_at (l := rdw signs 12) w11.2 (by decide)⟩
/-! no two returns side by side -/
noncomputable def noRR : List Nat → Bool
  | [] => true
  | c :: r => (c != 13 || r.head? != some 13) && noRR r
theorem noRR_row : ∀ {r : List Nat} (x : List Nat), (∀ c ∈ r, c ≠ 10 ∧ c ≠ 13) → noRR (r ++ 13 :: 10 :: x) = noRR x
  | [], x, _ => by
    show (((13 : Nat) != 13 || (10 :: x).head? != some 13) && (((10 : Nat) != 13 || x.head? != some 13) && noRR x)) = _
    simp
  | c :: r, x, h => by
    rw [List.cons_append, noRR, noRR_row x fun d hd => h d (.tail _ hd)]
    have : (c != 13) = true := by simpa using (h c (.head _)).2
    rw [this]; rfl
theorem noRR_txt : ∀ {ks : List Nat}, (∀ x ∈ ks, x < 8) → noRR (txt b ks) = true
  | [], _ => by show noRR tailQ = true; decide
  | x :: ks, h => by rw [txt_cons, noRR_row _ (line_no (h x (.head _))), noRR_txt fun y hy => h y (.tail _ hy)]
theorem noRR_at : ∀ {l : List Nat} (i : Nat), noRR l = true → ¬ (l[i]? = some 13 ∧ l[i + 1]? = some 13)
  | [], i, _, h => by simp at h
  | c :: r, 0, h, q => by
    rw [noRR] at h
    have h1 : c = 13 := by simpa using q.1
    have h2 : r.head? = some 13 := by rw [List.head?_eq_getElem?]; simpa using q.2
    rw [h1, h2] at h
    simp at h
  | c :: r, i + 1, h, q => by
    rw [noRR, Bool.and_eq_true] at h
    exact noRR_at i h.2 (by simpa using q)
theorem no_cr {y : Array Nat} (h : noRR y.toList = true) : (Builtin.Str.occurrences ⟨y⟩ (Str.ofString "\r\r") 0 (⟨y⟩ : Str).length 1).isEmpty = true := by
  rw [occ_nil_of_no]
  · rfl
  · intro i hi
    have l2 : (Str.ofString "\r\r").length = 2 := by decide +kernel
    rw [l2] at hi
    have hi : i + 2 ≤ y.size := hi
    unfold Builtin.Str.subAt
    rw [l2]
    show (y.extract i (i + 2) == (Str.ofString "\r\r").cps) = false
    rw [show (Str.ofString "\r\r").cps = #[13, 13] by decide +kernel]
    refine beq_eq_false_iff_ne.mpr fun e => noRR_at i h ?_
    have e0 : (y.extract i (i + 2))[0]? = some 13 := by rw [e]; rfl
    have e1 : (y.extract i (i + 2))[1]? = some 13 := by rw [e]; rfl
    rw [Array.getElem?_extract] at e0 e1
    rw [if_pos (by (first | lia | omega))] at e0 e1
    rw [Array.getElem?_toList, Array.getElem?_toList]
    exact ⟨e0, e1⟩
end
theorem page_ok (f : Nat → Int) : (pageT f).length ≤ 800000 ∧ (∀ y : Array Nat, y.toList = pageT f → (Builtin.Str.occurrences ⟨y⟩ (Str.ofString "\r\r") 0 (⟨y⟩ : Str).length 1).isEmpty = true) := by
  have P := pg_all (boss_le f) rfl (Nat.le_refl 8)
  have hU : ((ab (bossOf f) 8).2).Perm (List.range 8) := by
    have := P.perm
    simpa using this
  have e : pageT f = txt (bossOf f) (ab (bossOf f) 8).2 := page_text f hU P.ascU
  have h8 : ∀ x ∈ (ab (bossOf f) 8).2, x < 8 := fun x hx => (P.belU x hx).1
  refine ⟨?_, fun y hy => no_cr (by rw [hy, e]; exact noRR_txt h8)⟩
  have := txt_len (b := bossOf f) h8
  rw [hU.length_eq, List.length_range] at this
  rw [e]; (first | lia | omega)
theorem signs_txt (f : Nat → Int) {signs : List (Nat × Tok)} (h : signs.map (·.1) = pageT f) {js : List Nat} (hp : js.Perm (List.range 8)) (hs : js.Pairwise fun i j => pathLt (bossOf f) i j = true) : signs.map (·.1) = txt (bossOf f) js := by
  rw [h, page_text f hp hs]; rfl
end Pl
end
section
set_option maxRecDepth 100000
namespace Pl
theorem lt_lexI : ∀ (x y : List Nat), x < y ↔ lexI (x.map fun c => ((c : Nat) : Int)) (y.map fun c => ((c : Nat) : Int)) = true
  | [], [] => by simp [lexI_nn]
  | [], _ :: _ => by simp [lexI_nc]
  | _ :: _, [] => by simp [lexI_cn]
  | a :: x, c :: y => by
    rw [List.cons_lt_cons_iff, List.map_cons, List.map_cons, lexI_cons, lt_lexI x y]
    by_cases e : a = c
    · subst e
      simp
    · rw [if_neg (by omega)]
      simp [e]
theorem lexI_asymm {x y : List Int} (h : lexI x y = true) : lexI y x = false := by
  cases e : lexI y x with
  | false => rfl
  | true => have := lexI_trans h e; rw [lexI_irr] at this; cases this
theorem slt_eq (x y : Str) : slt x y = lexI (codesOf x) (codesOf y) := by
  unfold slt codesOf
  cases e : lexI (x.cps.toList.map fun c => ((c : Nat) : Int)) (y.cps.toList.map fun c => ((c : Nat) : Int)) with
  | true =>
    have h2 := lexI_asymm e
    rw [decide_eq_true ((lt_lexI _ _).mpr e), decide_eq_false (fun q => by rw [lt_lexI, h2] at q; cases q)]
    rfl
  | false => rw [decide_eq_false (fun q => by rw [lt_lexI, e] at q; cases q)]; rfl
theorem codes_dot (b : Nat → Nat) (j : Nat) : codesOf (dotN b j) = List.replicate (dep b j + 1) 46 ++ codesOf (nms.getD j Str.empty) := by
  unfold codesOf dotN
  rw [List.map_append, List.map_replicate]; rfl
theorem nm_head : ∀ j < 8, ∃ c r, codesOf (nms.getD j Str.empty) = c :: r ∧ 46 < c := by
  intro j hj
  have : ∀ j < 8, (codesOf (nms.getD j Str.empty)).head?.any (fun c => decide (46 < c)) = true := by decide +kernel
  have := this j hj
  cases e : codesOf (nms.getD j Str.empty) with
  | nil => rw [e] at this; cases this
  | cons c r => rw [e] at this; exact ⟨c, r, rfl, by simpa using this⟩
theorem dots_more {n k : Nat} (h : k < n) {c : Int} {r z : List Int} (hc : 46 < c) : lexI (List.replicate n 46 ++ z) (List.replicate k 46 ++ c :: r) = true := by
  obtain ⟨d, rfl⟩ : ∃ d, n = k + (d + 1) := ⟨n - k - 1, by omega⟩
  rw [← List.replicate_append_replicate, List.append_assoc, lexI_app, List.replicate_succ, List.cons_append, lexI_cons, if_neg (by omega)]
  exact decide_eq_true hc
theorem row_lex {b : Nat → Nat} {i j : Nat} (hj : j < 8) (h : rowLt b i j = true) : lexI (codesOf (dotN b i)) (codesOf (dotN b j)) = true := by
  unfold rowLt tupLt at h
  rw [codes_dot, codes_dot]
  have ei : plen b i = (dep b i : Int) := rfl
  have ej : plen b j = (dep b j : Int) := rfl
  rw [ei, ej] at h
  by_cases e : -(dep b i : Int) = -(dep b j : Int)
  · rw [if_pos e] at h
    rw [show dep b i = dep b j by omega, lexI_app]; exact h
  · rw [if_neg e] at h
    have := of_decide_eq_true h
    obtain ⟨c, r, ec, hc⟩ := nm_head j hj
    rw [ec]
    exact dots_more (by omega) hc
theorem slt_row {b : Nat → Nat} {i j : Nat} (hi : i < 8) (hj : j < 8) : slt (dotN b i) (dotN b j) = rowLt b i j := by
  rw [slt_eq]
  cases e : rowLt b i j with
  | true => exact row_lex hj e
  | false =>
    by_cases q : i = j
    · subst q; exact lexI_irr _
    · exact lexI_asymm (row_lex hi ((rowLt_ok b).total i j hi hj q e))
noncomputable def insJ (b : Nat → Nat) (row : List Nat) (x : Nat) : List Nat := row.take (row.filter fun y => rowLt b y x).length ++ x :: row.drop (row.filter fun y => rowLt b y x).length
theorem ins_map {b : Nat → Nat} {row : List Nat} {x : Nat} (hr : ∀ y ∈ row, y < 8) (hx : x < 8) : insRow (row.map (dotN b)) (dotN b x) = (insJ b row x).map (dotN b) := by
  have e : insAt (row.map (dotN b)) (dotN b x) = (row.filter fun y => rowLt b y x).length := by
    unfold insAt
    rw [List.filter_map, List.length_map]
    congr 1
    exact List.filter_congr fun y hy => slt_row (hr y hy) hx
  rw [insRow, e, insJ, List.map_append, List.map_cons, List.map_take, List.map_drop]
theorem insJ_perm (b : Nat → Nat) (row : List Nat) (x : Nat) : (insJ b row x).Perm (x :: row) := by
  unfold insJ
  refine List.perm_middle.trans ?_
  rw [List.take_append_drop]
theorem filter_pre {b : Nat → Nat} {x : Nat} (hx : x < 8) : ∀ {row : List Nat}, (∀ y ∈ row, y < 8) → row.Pairwise (fun i j => rowLt b i j = true) → (∀ y ∈ row.take (row.filter fun y => rowLt b y x).length, rowLt b y x = true) ∧ (∀ y ∈ row.drop (row.filter fun y => rowLt b y x).length, rowLt b y x = false)
  | [], _, _ => ⟨by simp, by simp⟩
  | y :: row, h8, hs => by
    have hs2 := List.pairwise_cons.mp hs
    have ih := filter_pre hx (fun z hz => h8 z (.tail _ hz)) hs2.2
    cases e : rowLt b y x with
    | true =>
      have e0 : (y :: row).filter (fun y => rowLt b y x) = y :: row.filter (fun y => rowLt b y x) := by rw [List.filter_cons, if_pos e]
      rw [e0, List.length_cons, List.take_succ_cons, List.drop_succ_cons]
      exact ⟨fun z hz => by rcases List.mem_cons.mp hz with rfl | hz; exact e; exact ih.1 z hz, ih.2⟩
    | false =>
      have no : ∀ z ∈ row, rowLt b z x = false := fun z hz => by
        cases q : rowLt b z x with
        | false => rfl
        | true => have := (rowLt_ok b).trans y z x (h8 y (.head _)) (h8 z (.tail _ hz)) hx (hs2.1 z hz) q; rw [e] at this; cases this
      have e0 : (y :: row).filter (fun y => rowLt b y x) = [] := by
        refine List.filter_eq_nil_iff.mpr fun z hz => ?_
        rcases List.mem_cons.mp hz with rfl | hz
        · rw [e]; decide
        · rw [no z hz]; decide
      rw [e0]
      exact ⟨by simp, fun z hz => by rcases List.mem_cons.mp hz with rfl | hz; exact e; exact no z hz⟩
theorem insJ_asc {b : Nat → Nat} {x : Nat} {row : List Nat} (hx : x < 8) (hr : ∀ y ∈ row, y < 8) (hn : x ∉ row) (hs : row.Pairwise (fun i j => rowLt b i j = true)) : (insJ b row x).Pairwise (fun i j => rowLt b i j = true) := by
  obtain ⟨h1, h2⟩ := filter_pre hx hr hs
  unfold insJ
  have hs' := hs
  rw [← List.take_append_drop (row.filter fun y => rowLt b y x).length row] at hs'
  obtain ⟨p1, p2, p3⟩ := List.pairwise_append.mp hs'
  refine List.pairwise_append.mpr ⟨p1, List.pairwise_cons.mpr ⟨fun z hz => ?_, p2⟩, fun y hy z hz => ?_⟩
  · have hm := List.mem_of_mem_drop hz
    exact (rowLt_ok b).total z x (hr z hm) hx (fun e => hn (e ▸ hm)) (h2 z hz)
  · rcases List.mem_cons.mp hz with rfl | hz
    · exact h1 y hy
    · exact p3 y hy z hz
theorem fold_ins {b : Nat → Nat} : ∀ {js row : List Nat}, (∀ y ∈ row, y < 8) → (∀ y ∈ js, y < 8) → (row ++ js).Nodup → row.Pairwise (fun i j => rowLt b i j = true) →
    ∃ out : List Nat, (js.map (dotN b)).foldl insRow (row.map (dotN b)) = out.map (dotN b) ∧ out.Perm (row ++ js) ∧ out.Pairwise (fun i j => rowLt b i j = true)
  | [], row, _, _, _, hs => ⟨row, rfl, by rw [List.append_nil], hs⟩
  | x :: js, row, h8, hj, hn, hs => by
    have hx := hj x (.head _)
    have hnx : x ∉ row := fun q => by
      have := (List.nodup_append.mp hn).2.2 x q x (.head _)
      exact this rfl
    have pm := insJ_perm b row x
    have pm2 : (insJ b row x ++ js).Perm (row ++ x :: js) := (pm.append_right js).trans List.perm_middle.symm
    obtain ⟨out, e, p, s⟩ := fold_ins (b := b) (js := js) (row := insJ b row x) (fun y hy => by
      rcases List.mem_cons.mp (pm.mem_iff.mp hy) with rfl | hy
      · exact hx
      · exact h8 y hy) (fun y hy => hj y (.tail _ hy)) (pm2.nodup_iff.mpr hn) (insJ_asc hx h8 hnx hs)
    refine ⟨out, ?_, p.trans pm2, s⟩
    rw [List.map_cons, List.foldl_cons, ins_map h8 hx, e]
theorem row_ok {b : Nat → Nat} {js ks : List Nat} (hj : js.Perm (List.range 8)) (hk : ks.Perm (List.range 8)) (hs : ks.Pairwise (fun i j => rowLt b i j = true)) : (js.map (dotN b)).foldl insRow [] = ks.map (dotN b) := by
  have h8 : ∀ x ∈ js, x < 8 := fun x hx => List.mem_range.mp (hj.mem_iff.mp hx)
  obtain ⟨out, e, p, s⟩ := fold_ins (b := b) (js := js) (row := []) (by simp) h8 (by rw [List.nil_append]; exact hj.nodup_iff.mpr List.nodup_range) .nil
  rw [List.nil_append] at p
  rw [show ([] : List Str) = ([] : List Nat).map (dotN b) from rfl, e, sorted_one (rowLt_ok b) (p.trans (hj.trans hk.symm)) (fun x hx => h8 x (p.mem_iff.mp hx)) s hs]
end Pl
end
section
set_option maxRecDepth 100000
namespace Pl
section
variable {α : Type}
noncomputable def goH (p : α → Bool) : List α → Nat → List α
  | [], _ => []
  | x :: r, z => if 0 < z ∧ p x = true then goH p r (z - 1) else x :: goH p r z
theorem goH_nil (p : α → Bool) (z : Nat) : goH p [] z = [] := rfl
theorem goH_cons (p : α → Bool) (x : α) (r : List α) (z : Nat) : goH p (x :: r) z = if 0 < z ∧ p x = true then goH p r (z - 1) else x :: goH p r z := rfl
theorem goH_sub (p : α → Bool) : ∀ (l : List α) (z : Nat), (goH p l z).Sublist l
  | [], _ => .slnil
  | x :: r, z => by
    rw [goH_cons]
    split
    · exact (goH_sub p r _).cons _
    · exact (goH_sub p r _).cons₂ _
theorem goH_stays {p : α → Bool} {x : α} (hp : p x = false) : ∀ {l : List α} {z : Nat}, x ∈ l → x ∈ goH p l z
  | [], _, h => h
  | y :: r, z, h => by
    rw [goH_cons]
    rcases List.mem_cons.mp h with rfl | h
    · rw [if_neg (by rw [hp]; simp)]; exact .head _
    · split
      · exact goH_stays hp h
      · exact .tail _ (goH_stays hp h)
variable (dep : α → Nat)
noncomputable def nD (d : Nat) (W : List α) : Nat := W.countP fun x => decide (d ≤ dep x)
noncomputable def fD (p : α → Bool) (d : Nat) (W : List α) : Nat := W.countP fun x => p x && decide (d ≤ dep x)
noncomputable def eD (d : Nat) (W : List α) : Nat := W.countP fun x => decide (dep x = d)
variable {dep}
theorem nD_zero {d : Nat} {W : List α} (h : ∀ x ∈ W, dep x < d) : nD dep d W = 0 := List.countP_eq_zero.mpr fun x hx => by have := h x hx; simp; (first | lia | omega)
theorem fD_le (p : α → Bool) (d : Nat) (W : List α) : fD dep p d W ≤ nD dep d W := List.countP_mono_left fun x _ h => by
  rw [Bool.and_eq_true] at h; exact h.2
theorem ar1 {e f n m : Nat} (q : ¬ 1 ≤ m) (h2 : e ≤ f) (h3 : n = e + m) (h4 : f ≤ n) : f = n := Nat.le_antisymm h4 (by rw [h3, Nat.eq_zero_of_not_pos q]; exact h2)
theorem ar2 {e f n m g z : Nat} (q : ¬ 1 ≤ m) (ha : f = n) (hg : g + min z f = n) (hn : 1 ≤ g) (h3 : n = e + m) : z < e := by lia
theorem ar3 {A B Z N G z F : Nat} (h7 : A + Z = N) (h8 : G + min z F = A) (h9 : z ≤ F) (e : B = G) : B + (Z + z) = N := by
  rw [e, ← h7, ← h8, Nat.min_eq_left h9, Nat.add_comm Z z, Nat.add_assoc]
theorem ar4 {A B Z N G z F : Nat} (h7 : N ≤ A + Z) (h8 : G + min z F = A) (e : B = G) : N ≤ B + (Z + z) := by
  rw [e]
  refine Nat.le_trans h7 ?_
  rw [← h8, Nat.add_assoc, Nat.add_comm Z]
  exact Nat.add_le_add_left (Nat.add_le_add_right (Nat.min_le_left z F) Z) G
theorem ar5 {g i y p : Nat} (hd : g + 1 - i ≤ y) (u : p + 1 = y) : g + 1 - (i + 1) ≤ p := Nat.pred_le_pred (Nat.le_trans hd (Nat.le_of_eq u.symm))
theorem ar6 {g i y : Nat} (hi : i + 1 ≤ g) (hd : g + 1 - i ≤ y) : 2 ≤ y := Nat.le_trans (Nat.le_sub_of_add_le (by rw [Nat.add_comm]; exact Nat.succ_le_succ hi)) hd
theorem nd1 {A n z f N F : Nat} (en : N = n + 1) (hz : 0 < z) (ef : F = f + 1) (ih : A + min (z - 1) f = n) : A + min z F = N := by
  cases z with
  | zero => exact absurd hz (Nat.lt_irrefl 0)
  | succ k => rw [en, ef, Nat.succ_min_succ]; exact congrArg Nat.succ ih
theorem nd2 {A A' n f N F : Nat} (en : N = n + 1) (e2 : A' = A + 1) (ih : A + min 0 f = n) : A' + min 0 F = N := by
  rw [Nat.zero_min] at ih ⊢
  rw [e2, en, ← ih]
theorem nd3 {A A' n z f N F : Nat} (en : N = n + 1) (e2 : A' = A + 1) (ef : F = f) (ih : A + min z f = n) : A' + min z F = N := by
  rw [e2, ef, en, ← ih]; exact Nat.succ_add A _
theorem nD_go (p : α → Bool) (d : Nat) : ∀ {l : List α} {z : Nat}, l.Pairwise (fun x y => dep y ≤ dep x) → nD dep d (goH p l z) + min z (fD dep p d l) = nD dep d l
  | [], z, _ => by simp [goH_nil, nD, fD]
  | x :: r, z, hs => by
    obtain ⟨h1, h2⟩ := List.pairwise_cons.mp hs
    by_cases q : d ≤ dep x
    · have en : nD dep d (x :: r) = nD dep d r + 1 := by unfold nD; rw [List.countP_cons_of_pos (by simpa using q)]
      rw [goH_cons]
      by_cases c : 0 < z ∧ p x = true
      · rw [if_pos c]
        have ef : fD dep p d (x :: r) = fD dep p d r + 1 := by unfold fD; rw [List.countP_cons_of_pos (by simp [c.2, q])]
        exact nd1 en c.1 ef (nD_go p d (z := z - 1) h2)
      · rw [if_neg c]
        have ih := nD_go p d (z := z) h2
        have e2 : nD dep d (x :: goH p r z) = nD dep d (goH p r z) + 1 := by unfold nD; rw [List.countP_cons_of_pos (by simpa using q)]
        by_cases z0 : z = 0
        · subst z0; exact nd2 en e2 ih
        · have ef : fD dep p d (x :: r) = fD dep p d r := by
            unfold fD; rw [List.countP_cons_of_neg]
            intro q2
            rw [Bool.and_eq_true] at q2
            exact c ⟨Nat.pos_of_ne_zero z0, q2.1⟩
          exact nd3 en e2 ef ih
    · have hl : ∀ y ∈ x :: r, dep y < d := fun y hy => by
        rcases List.mem_cons.mp hy with rfl | hy
        · (first | lia | omega)
        · have := h1 y hy; (first | lia | omega)
      have h0 := nD_zero hl
      have h3 := nD_zero (dep := dep) (d := d) (W := goH p (x :: r) z) fun y hy => hl y ((goH_sub p _ _).subset hy)
      have h4 := fD_le (dep := dep) p d (x :: r)
      rw [h3, Nat.eq_zero_of_le_zero (Nat.le_trans h4 (Nat.le_of_eq h0)), Nat.min_zero, h0]
theorem len_le_of_sub [DecidableEq α] : ∀ {a b : List α}, a.Nodup → (∀ x ∈ a, x ∈ b) → a.length ≤ b.length
  | [], _, _, _ => Nat.zero_le _
  | x :: a, b, hn, hs => by
    obtain ⟨h1, h2⟩ := List.nodup_cons.mp hn
    have hx := hs x (.head _)
    have := len_le_of_sub (a := a) (b := b.erase x) h2 fun y hy => (List.mem_erase_of_ne (fun e => h1 (by rw [← e]; exact hy))).mpr (hs y (.tail _ hy))
    rw [List.length_erase_of_mem hx] at this
    have := List.length_pos_of_mem hx
    rw [List.length_cons]; (first | lia | omega)
structure HuOk (W0 : List α) (dep : α → Nat) (par : α → α) (An : α → α → Prop) (fr : List α → α → Bool) : Prop where
  fr_iff : ∀ W : List α, (∀ x ∈ W, x ∈ W0) → ∀ x ∈ W0, (fr W x = true ↔ ∀ y ∈ W, ¬ An x y)
  dlt : ∀ x ∈ W0, ∀ y ∈ W0, An x y → dep x < dep y
  up : ∀ y ∈ W0, 2 ≤ dep y → par y ∈ W0 ∧ An (par y) y ∧ dep (par y) + 1 = dep y
  down : ∀ x ∈ W0, ∀ y ∈ W0, An x y → ∃ z ∈ W0, (z = y ∨ An z y) ∧ par z = x ∧ dep z = dep x + 1
  pos : ∀ x ∈ W0, 1 ≤ dep x
  srt : W0.Pairwise fun x y => dep y ≤ dep x
  nd : W0.Nodup
noncomputable def Wt (fr : List α → α → Bool) (z : Nat → Nat) (W0 : List α) : Nat → List α
  | 0 => W0
  | t + 1 => goH (fr (Wt fr z W0 t)) (Wt fr z W0 t) (z t)
theorem Wt_succ (fr : List α → α → Bool) (z : Nat → Nat) (W0 : List α) (t : Nat) : Wt fr z W0 (t + 1) = goH (fr (Wt fr z W0 t)) (Wt fr z W0 t) (z t) := rfl
noncomputable def Zs (z : Nat → Nat) : Nat → Nat
  | 0 => 0
  | t + 1 => Zs z t + z t
theorem Zs_succ (z : Nat → Nat) (t : Nat) : Zs z (t + 1) = Zs z t + z t := rfl
variable [DecidableEq α] {par : α → α} {An : α → α → Prop} {fr : List α → α → Bool} {W0 : List α} {z : Nat → Nat}
theorem Wt_sub (fr : List α → α → Bool) (z : Nat → Nat) (W0 : List α) (s : Nat) : ∀ k, (Wt fr z W0 (s + k)).Sublist (Wt fr z W0 s)
  | 0 => List.Sublist.refl _
  | k + 1 => (goH_sub _ _ _).trans (Wt_sub fr z W0 s k)
theorem Wt_mem {t : Nat} : ∀ x ∈ Wt fr z W0 t, x ∈ W0 := fun x hx => (by
  have := Wt_sub fr z W0 0 t
  rw [Nat.zero_add] at this
  exact this.subset hx)
theorem Wt_nd (H : HuOk W0 dep par An fr) (t : Nat) : (Wt fr z W0 t).Nodup := by
  have := Wt_sub fr z W0 0 t
  rw [Nat.zero_add] at this
  exact this.nodup H.nd
theorem Wt_srt (H : HuOk W0 dep par An fr) (t : Nat) : (Wt fr z W0 t).Pairwise fun x y => dep y ≤ dep x := by
  have := Wt_sub fr z W0 0 t
  rw [Nat.zero_add] at this
  exact List.Pairwise.sublist this H.srt
theorem Wt_up (H : HuOk W0 dep par An fr) (t : Nat) : ∀ x ∈ W0, ∀ y ∈ Wt fr z W0 t, An x y → x ∈ Wt fr z W0 (t + 1) := by
  have key : ∀ t, ∀ x ∈ W0, ∀ y ∈ Wt fr z W0 t, An x y → x ∈ Wt fr z W0 t → x ∈ Wt fr z W0 (t + 1) := fun t x hx y hy ha hxt =>
    goH_stays (Bool.eq_false_iff.mpr fun q => (H.fr_iff _ (fun u hu => Wt_mem u hu) x hx).mp q y hy ha) hxt
  induction t with
  | zero => exact fun x hx y hy ha => key 0 x hx y hy ha hx
  | succ t ih => exact fun x hx y hy ha => key _ x hx y hy ha (ih x hx y ((goH_sub _ _ _).subset hy) ha)
theorem Wt_closed (H : HuOk W0 dep par An fr) (t : Nat) : ∀ x ∈ W0, ∀ y ∈ Wt fr z W0 t, An x y → x ∈ Wt fr z W0 t := fun x hx y hy ha => (goH_sub _ _ _).subset (Wt_up H t x hx y hy ha)
theorem eD_split (p : α → Bool) (d : Nat) : ∀ W : List α, eD dep d W = (W.countP fun x => p x && decide (dep x = d)) + W.countP fun x => !p x && decide (dep x = d)
  | [] => rfl
  | x :: W => by
    have ih := eD_split p d W
    unfold eD at ih ⊢
    simp only [List.countP_cons]
    cases p x <;> simp <;> (first | lia | omega)
theorem fD_split (p : α → Bool) (d : Nat) : ∀ W : List α, fD dep p d W = (W.countP fun x => p x && decide (dep x = d)) + fD dep p (d + 1) W
  | [] => rfl
  | x :: W => by
    have ih := fD_split p d W
    unfold fD at ih ⊢
    simp only [List.countP_cons]
    by_cases e : dep x = d
    · have g : ¬ d + 1 ≤ d := by (first | lia | omega)
      cases p x <;> simp [e, g] <;> (first | lia | omega)
    · by_cases g : d + 1 ≤ dep x
      · have : d ≤ dep x := by (first | lia | omega)
        cases p x <;> simp [e, g, this] <;> (first | lia | omega)
      · have : ¬ d ≤ dep x := by (first | lia | omega)
        cases p x <;> simp [e, g, this] <;> (first | lia | omega)
theorem nf_le (H : HuOk W0 dep par An fr) (t d : Nat) : ((Wt fr z W0 t).countP fun x => !fr (Wt fr z W0 t) x && decide (dep x = d)) ≤ eD dep (d + 1) (Wt fr z W0 t) := by
  obtain ⟨W, hW⟩ : ∃ W, Wt fr z W0 t = W := ⟨_, rfl⟩
  have nd := Wt_nd (z := z) H t
  have cl := Wt_closed (z := z) H t
  have mm : ∀ x ∈ Wt fr z W0 t, x ∈ W0 := fun x hx => Wt_mem x hx
  rw [hW] at nd cl mm ⊢
  unfold eD
  rw [List.countP_eq_length_filter, List.countP_eq_length_filter, ← List.length_map (f := par) (as := W.filter fun x => decide (dep x = d + 1))]
  refine len_le_of_sub (nd.filter _) fun x hx => ?_
  obtain ⟨hx, q⟩ := List.mem_filter.mp hx
  rw [Bool.and_eq_true] at q
  have e := of_decide_eq_true q.2
  have nf : ¬ ∀ y ∈ W, ¬ An x y := fun a => by
    rw [(H.fr_iff W mm x (mm x hx)).mpr a] at q
    cases q.1
  have : ∃ y ∈ W, An x y := by
    refine Classical.byContradiction fun c => nf fun y hy a => c ⟨y, hy, a⟩
  obtain ⟨y, hy, a⟩ := this
  obtain ⟨u, hu, hu2, e1, e2⟩ := H.down x (mm x hx) y (mm y hy) a
  have huW : u ∈ W := by
    rcases hu2 with rfl | hu2
    · exact hy
    · exact cl u hu y hy hu2
  exact List.mem_map.mpr ⟨u, List.mem_filter.mpr ⟨huW, decide_eq_true (by (first | lia | omega))⟩, e1⟩
theorem leaves (H : HuOk W0 dep par An fr) (t : Nat) : ∀ (k d : Nat), (∀ x ∈ Wt fr z W0 t, dep x < d + k) → eD dep d (Wt fr z W0 t) ≤ fD dep (fr (Wt fr z W0 t)) d (Wt fr z W0 t)
  | 0, d, h => by
    have : eD dep d (Wt fr z W0 t) = 0 := List.countP_eq_zero.mpr fun x hx => by have := h x hx; simp; (first | lia | omega)
    (first | lia | omega)
  | k + 1, d, h => by
    have ih := leaves H t k (d + 1) fun x hx => by have := h x hx; (first | lia | omega)
    have h1 := nf_le (z := z) H t d
    rw [eD_split (fr (Wt fr z W0 t)) d, fD_split (fr (Wt fr z W0 t)) d]
    (first | lia | omega)
theorem bounded (W : List α) : ∃ k, ∀ x ∈ W, dep x < k := by
  induction W with
  | nil => exact ⟨0, by simp⟩
  | cons x W ih =>
    obtain ⟨k, hk⟩ := ih
    refine ⟨k + dep x + 1, fun y hy => ?_⟩
    rcases List.mem_cons.mp hy with rfl | hy
    · (first | lia | omega)
    · have := hk y hy; (first | lia | omega)
theorem leaves' (H : HuOk W0 dep par An fr) (t d : Nat) : eD dep d (Wt fr z W0 t) ≤ fD dep (fr (Wt fr z W0 t)) d (Wt fr z W0 t) := by
  obtain ⟨k, hk⟩ := bounded (dep := dep) (Wt fr z W0 t)
  exact leaves H t k d fun x hx => by have := hk x hx; (first | lia | omega)
theorem slack (H : HuOk W0 dep par An fr) (t d : Nat) (h : fD dep (fr (Wt fr z W0 t)) d (Wt fr z W0 t) < z t) : eD dep d (Wt fr z W0 (t + 1)) < z t := by
  obtain ⟨W, hW⟩ : ∃ W, Wt fr z W0 t = W := ⟨_, rfl⟩
  have h1 := nf_le (z := z) H t d
  have h2 := leaves' (z := z) H t (d + 1)
  have h3 := fD_split (dep := dep) (fr W) d W
  have hg := nD_go (dep := dep) (fr W) d (z := z t) (hW ▸ Wt_srt (z := z) H t)
  rw [Wt_succ]
  rw [hW] at h h1 h2 ⊢
  -- of those of the depth only such as were not free are left
  have key : ∀ (l : List α) (n : Nat), l.Pairwise (fun x y => dep y ≤ dep x) → fD dep (fr W) d l < n → eD dep d (goH (fr W) l n) ≤ l.countP fun x => !fr W x && decide (dep x = d) := by
    intro l
    induction l with
    | nil => intro n _ _; simp [goH_nil, eD]
    | cons x r ih =>
      intro n hs hlt
      obtain ⟨hs1, hs2⟩ := List.pairwise_cons.mp hs
      rw [goH_cons]
      by_cases c : 0 < n ∧ fr W x = true
      · rw [if_pos c]
        rw [List.countP_cons_of_neg (by rw [c.2]; simp)]
        by_cases g : d ≤ dep x
        · refine ih (n - 1) hs2 ?_
          have : fD dep (fr W) d (x :: r) = fD dep (fr W) d r + 1 := by unfold fD; rw [List.countP_cons_of_pos (by simp [c.2, g])]
          (first | lia | omega)
        · have : eD dep d (goH (fr W) r (n - 1)) = 0 := List.countP_eq_zero.mpr fun y hy => by
            have := hs1 y ((goH_sub _ _ _).subset hy)
            simp; (first | lia | omega)
          (first | lia | omega)
      · rw [if_neg c]
        have hf : fr W x = false := by
          cases q : fr W x with
          | false => rfl
          | true => exact absurd ⟨by (first | lia | omega), q⟩ c
        have := ih n hs2 (by
          have : fD dep (fr W) d (x :: r) = fD dep (fr W) d r := by unfold fD; rw [List.countP_cons_of_neg (by rw [hf]; simp)]
          (first | lia | omega))
        unfold eD at this ⊢
        rw [List.countP_cons, List.countP_cons, hf]
        simp
        (first | lia | omega)
  have := key W (z t) (hW ▸ Wt_srt (z := z) H t) h
  (first | lia | omega)
theorem eD_mono {W W' : List α} (h : W'.Sublist W) (d : Nat) : eD dep d W' ≤ eD dep d W := h.countP_le
theorem nD_mono {W W' : List α} (h : W'.Sublist W) (d : Nat) : nD dep d W' ≤ nD dep d W := h.countP_le
theorem nD_split (d : Nat) : ∀ W : List α, nD dep d W = eD dep d W + nD dep (d + 1) W
  | [] => rfl
  | x :: W => by
    have ih := nD_split d W
    unfold nD eD at ih ⊢
    simp only [List.countP_cons]
    by_cases e : dep x = d
    · have g : ¬ d + 1 ≤ d := by (first | lia | omega)
      simp [e, g]; (first | lia | omega)
    · by_cases g : d + 1 ≤ dep x
      · have : d ≤ dep x := by (first | lia | omega)
        simp [e, g, this]; (first | lia | omega)
      · have : ¬ d ≤ dep x := by (first | lia | omega)
        simp [e, g, this]; (first | lia | omega)
theorem hu_up (H : HuOk W0 dep par An fr) (hz : ∀ s t, s ≤ t → z s ≤ z t) {L : Nat} (hL : ∀ g h, Zs z h < nD dep (g + 1) W0 → g + h + 1 ≤ L) :
    ∀ t d, 1 ≤ d → 1 ≤ nD dep d (Wt fr z W0 t) → t + d ≤ L
  | 0, d, h1, hn => by
    have := hL (d - 1) 0 (by rw [show d - 1 + 1 = d by (first | lia | omega)]; exact hn)
    (first | lia | omega)
  | t + 1, d, h1, hn => by
    by_cases q : 1 ≤ nD dep (d + 1) (Wt fr z W0 t)
    · have := hu_up H hz hL t (d + 1) (by (first | lia | omega)) q
      (first | lia | omega)
    · have srt := fun s => Wt_srt (z := z) H s
      have go := fun s => nD_go (dep := dep) (fr (Wt fr z W0 s)) d (z := z s) (srt s)
      have hall : fD dep (fr (Wt fr z W0 t)) d (Wt fr z W0 t) = nD dep d (Wt fr z W0 t) := by
        have h2 := leaves' (z := z) H t d
        have h3 := nD_split (dep := dep) d (Wt fr z W0 t)
        have h4 := fD_le (dep := dep) (fr (Wt fr z W0 t)) d (Wt fr z W0 t)
        exact ar1 q h2 h3 h4
      have hgt := go t
      have hn' : 1 ≤ nD dep d (goH (fr (Wt fr z W0 t)) (Wt fr z W0 t) (z t)) := hn
      have hbig : z t < eD dep d (Wt fr z W0 t) := by
        have h3 := nD_split (dep := dep) d (Wt fr z W0 t)
        exact ar2 q hall hgt hn' h3
      have full : ∀ s, s ≤ t → z s ≤ fD dep (fr (Wt fr z W0 s)) d (Wt fr z W0 s) := fun s hs => by
        by_cases e : s = t
        · subst e
          rw [hall, nD_split, Nat.eq_zero_of_not_pos q]
          exact Nat.le_of_lt hbig
        · refine Nat.le_of_not_lt fun c => ?_
          have h5 := slack H s d c
          have h6 : eD dep d (Wt fr z W0 t) ≤ eD dep d (Wt fr z W0 (s + 1)) := by
            have := Wt_sub fr z W0 (s + 1) (t - (s + 1))
            rw [show s + 1 + (t - (s + 1)) = t by (first | lia | omega)] at this
            exact eD_mono this d
          have := hz s t hs
          (first | lia | omega)
      have sum : ∀ s, s ≤ t + 1 → nD dep d (Wt fr z W0 s) + Zs z s = nD dep d W0 := fun s => by
        induction s with
        | zero => intro _; rfl
        | succ s ih =>
          intro hs
          have h7 := ih (by (first | lia | omega))
          have h8 := go s
          have h9 := full s (by (first | lia | omega))
          have : nD dep d (Wt fr z W0 (s + 1)) = nD dep d (goH (fr (Wt fr z W0 s)) (Wt fr z W0 s) (z s)) := rfl
          rw [Zs_succ]
          exact ar3 h7 h8 h9 this
      have := sum (t + 1) (Nat.le_refl _)
      have := hL (d - 1) (t + 1) (by rw [show d - 1 + 1 = d by (first | lia | omega)]; (first | lia | omega))
      (first | lia | omega)
theorem hu_low (H : HuOk W0 dep par An fr) {g h : Nat} (hh : Zs z h < nD dep (g + 1) W0) : Wt fr z W0 (g + h) ≠ [] := by
  have low : ∀ s, nD dep (g + 1) W0 ≤ nD dep (g + 1) (Wt fr z W0 s) + Zs z s := fun s => by
    induction s with
    | zero => exact Nat.le_refl _
    | succ s ih =>
      have h8 := nD_go (dep := dep) (fr (Wt fr z W0 s)) (g + 1) (z := z s) (Wt_srt (z := z) H s)
      have : nD dep (g + 1) (Wt fr z W0 (s + 1)) = nD dep (g + 1) (goH (fr (Wt fr z W0 s)) (Wt fr z W0 s) (z s)) := rfl
      rw [Zs_succ]
      exact ar4 ih h8 this
  have step : ∀ i, i ≤ g → 1 ≤ nD dep (g + 1 - i) (Wt fr z W0 (h + i)) := fun i => by
    induction i with
    | zero => intro _; have := low h; show 1 ≤ nD dep (g + 1) (Wt fr z W0 h); (first | lia | omega)
    | succ i ih =>
      intro hi
      have h1 := ih (by (first | lia | omega))
      obtain ⟨y, hy, hd⟩ := List.countP_pos_iff.mp h1
      have hd := of_decide_eq_true hd
      obtain ⟨u1, u2, u3⟩ := H.up y (Wt_mem y hy) (ar6 hi hd)
      refine List.countP_pos_iff.mpr ⟨par y, Wt_up H (h + i) _ u1 y hy u2, decide_eq_true (ar5 hd u3)⟩
  have := step g (Nat.le_refl _)
  rw [Nat.add_comm g h]
  intro e
  rw [e] at this
  simp [nD] at this
theorem hu_all (H : HuOk W0 dep par An fr) (hz : ∀ s t, s ≤ t → z s ≤ z t) {L g h : Nat} (hL : ∀ g h, Zs z h < nD dep (g + 1) W0 → g + h + 1 ≤ L) (he : g + h + 1 = L) (hh : Zs z h < nD dep (g + 1) W0) :
    Wt fr z W0 L = [] ∧ ∀ t, t < L → Wt fr z W0 t ≠ [] := by
  refine ⟨?_, fun t ht e => ?_⟩
  · cases q : Wt fr z W0 L with
    | nil => rfl
    | cons x r =>
      have hx : x ∈ Wt fr z W0 L := by rw [q]; exact .head _
      have := hu_up H hz hL L 1 (Nat.le_refl _) (List.countP_pos_iff.mpr ⟨x, hx, decide_eq_true (H.pos x (Wt_mem x hx))⟩)
      (first | lia | omega)
  · have h1 := hu_low (z := z) H hh
    have h2 := Wt_sub fr z W0 t (g + h - t)
    rw [show t + (g + h - t) = g + h by (first | lia | omega), e] at h2
    exact h1 (List.sublist_nil.mp h2)
end
end Pl
end
section
set_option maxRecDepth 100000
namespace Pl
theorem lex_between : ∀ {p z s : List Int}, lexI p z = true → lexI z (p ++ s) = true → ∃ c r, z = p ++ c :: r
  | [], [], _, h, _ => by cases h
  | [], c :: z, _, _, _ => ⟨c, z, rfl⟩
  | _ :: _, [], _, h, _ => by cases h
  | a :: p, c :: z, s, h1, h2 => by
    rw [List.cons_append] at h2
    rw [lexI] at h1 h2
    by_cases e : a = c
    · subst e
      rw [if_pos rfl] at h1 h2
      obtain ⟨d, r, rfl⟩ := lex_between h1 h2
      exact ⟨d, r, rfl⟩
    · rw [if_neg e] at h1
      rw [if_neg (fun q => e q.symm)] at h2
      have := of_decide_eq_true h1
      have := of_decide_eq_true h2
      (first | lia | omega)
theorem lex_split : ∀ {p q : List Int}, lexI p q = true → (∃ c r, q = p ++ c :: r) ∨ ∃ s a c p' q', p = s ++ a :: p' ∧ q = s ++ c :: q' ∧ a < c
  | [], [], h => by cases h
  | [], c :: q, _ => .inl ⟨c, q, rfl⟩
  | _ :: _, [], h => by cases h
  | a :: p, c :: q, h => by
    rw [lexI] at h
    by_cases e : a = c
    · subst e
      rw [if_pos rfl] at h
      rcases lex_split h with ⟨d, r, rfl⟩ | ⟨s, d, d', p', q', rfl, rfl, hd⟩
      · exact .inl ⟨d, r, rfl⟩
      · exact .inr ⟨a :: s, d, d', p', q', rfl, rfl, hd⟩
    · rw [if_neg e] at h
      exact .inr ⟨[], a, c, p, q, rfl, rfl, of_decide_eq_true h⟩
section
variable {b : Nat → Nat}
theorem path_inj {i j : Nat} (hi : i < 8) (hj : j < 8) (h : path b i = path b j) : i = j := Classical.byContradiction fun e => pths_ne hi hj e h
theorem prefix_job (hb : ∀ k < 8, b k ≤ k) : ∀ (n y : Nat) (s : List Int) (c : Int) (q : List Int), y < n → y < 8 → path b y = s ++ c :: q → ∃ u, u < 8 ∧ path b u = s ++ [c]
  | 0, y, s, c, q, h, _, _ => absurd h (Nat.not_lt_zero _)
  | n + 1, y, s, c, q, h, hy, e => by
    rcases List.eq_nil_or_concat q with rfl | ⟨q', d, rfl⟩
    · exact ⟨y, hy, e⟩
    · have ep := path_eq hb hy
      rw [e, List.concat_eq_append] at ep
      have ep : (s ++ c :: q') ++ [d] = (if b y = y then [] else path b (b y)) ++ [-(y : Int)] := by rw [← ep]; simp
      have ep := (List.append_inj' ep rfl).1
      by_cases r : b y = y
      · rw [if_pos r] at ep
        have := congrArg List.length ep
        simp at this
      · rw [if_neg r] at ep
        have := hb y hy
        exact prefix_job hb n (b y) s c q' (by (first | lia | omega)) (by (first | lia | omega)) ep.symm
noncomputable def An (b : Nat → Nat) (x y : Nat) : Prop := ∃ c r, path b y = path b x ++ c :: r
theorem An.dep {x y : Nat} (h : An b x y) : dep b x < dep b y := by
  obtain ⟨c, r, e⟩ := h
  show (path b x).length < (path b y).length
  rw [e]; simp
theorem An.lt {x y : Nat} (h : An b x y) : pathLt b x y = true := by
  obtain ⟨c, r, e⟩ := h
  show lexI (path b x) (path b y) = true
  rw [e]; exact lexI_pre _ _ _
theorem An.up (hb : ∀ k < 8, b k ≤ k) {y : Nat} (hy : y < 8) (h : 2 ≤ Pl.dep b y) : b y < 8 ∧ An b (b y) y ∧ Pl.dep b (b y) + 1 = Pl.dep b y := by
  have e := path_eq hb hy
  have hl := congrArg List.length e
  have h : 2 ≤ (path b y).length := h
  have hle := hb y hy
  by_cases r : b y = y
  · rw [if_pos r] at hl
    have hl : (path b y).length = 1 := hl
    (first | lia | omega)
  · rw [if_neg r] at e hl
    refine ⟨by (first | lia | omega), ⟨_, [], e⟩, ?_⟩
    show (path b (b y)).length + 1 = (path b y).length
    rw [hl]; simp
theorem An.down (hb : ∀ k < 8, b k ≤ k) {x y : Nat} (hx : x < 8) (hy : y < 8) (h : An b x y) : ∃ z, z < 8 ∧ (z = y ∨ An b z y) ∧ b z = x ∧ Pl.dep b z = Pl.dep b x + 1 := by
  obtain ⟨c, r, e⟩ := h
  obtain ⟨z, hz, ez⟩ := prefix_job hb 8 y (path b x) c r hy hy e
  refine ⟨z, hz, ?_, ?_, ?_⟩
  · cases r with
    | nil => exact .inl (path_inj hz hy (by rw [ez, e]))
    | cons d r => exact .inr ⟨d, r, by rw [e, ez]; simp⟩
  · have ep := path_eq hb hz
    rw [ez] at ep
    have ep := (List.append_inj' ep rfl).1
    by_cases q : b z = z
    · rw [if_pos q] at ep
      have := dep_pos hb hx
      have h0 : (path b x).length = 0 := by rw [ep]; rfl
      have : 1 ≤ (path b x).length := this
      (first | lia | omega)
    · rw [if_neg q] at ep
      have := hb z hz
      exact (path_inj hx (by (first | lia | omega)) ep).symm
  · show (path b z).length = (path b x).length + 1
    rw [ez]; simp
noncomputable def freeN (b : Nat → Nat) (W : List Nat) (d : Nat) : List Nat → Bool
  | [] => true
  | o :: r => if d < dep b o then (if o ∈ W then false else freeN b W d r) else true
theorem freeN_cons (b : Nat → Nat) (W : List Nat) (d o : Nat) (r : List Nat) : freeN b W d (o :: r) = if d < dep b o then (if o ∈ W then false else freeN b W d r) else true := rfl
theorem freeN_run {W : List Nat} {d y : Nat} {r : List Nat} (hy : y ∈ W) (hd : d < dep b y) : ∀ {p : List Nat}, (∀ z ∈ p, d < dep b z) → freeN b W d (p ++ y :: r) = false
  | [], _ => by rw [List.nil_append, freeN_cons, if_pos hd, if_pos hy]
  | z :: p, h => by
    rw [List.cons_append, freeN_cons, if_pos (h z (.head _))]
    split
    · rfl
    · exact freeN_run hy hd fun u hu => h u (.tail _ hu)
theorem freeN_no {W : List Nat} {d : Nat} : ∀ {l : List Nat}, freeN b W d l = false → ∃ p y r, l = p ++ y :: r ∧ y ∈ W ∧ d < dep b y ∧ ∀ z ∈ p, d < dep b z
  | [], h => by cases h
  | o :: l, h => by
    rw [freeN] at h
    by_cases q : d < dep b o
    · rw [if_pos q] at h
      by_cases m : o ∈ W
      · exact ⟨[], o, l, rfl, m, q, by simp⟩
      · rw [if_neg m] at h
        obtain ⟨p, y, r, rfl, h1, h2, h3⟩ := freeN_no h
        exact ⟨o :: p, y, r, rfl, h1, h2, fun z hz => by rcases List.mem_cons.mp hz with rfl | hz; exact q; exact h3 z hz⟩
    · rw [if_neg q] at h; cases h
theorem pathLt_asymm {x y : Nat} (h : pathLt b x y = true) : pathLt b y x = false := lexI_asymm h
theorem freeN_iff (hb : ∀ k < 8, b k ≤ k) {pre post W : List Nat} {j : Nat} (hp : (pre ++ j :: post).Perm (List.range 8)) (hs : (pre ++ j :: post).Pairwise fun i j => pathLt b i j = true) (hW : ∀ x ∈ W, x < 8) :
    freeN b W (dep b j) post = true ↔ ∀ y ∈ W, ¬ An b j y := by
  have mem : ∀ x, x < 8 ↔ x ∈ pre ++ j :: post := fun x => by rw [hp.mem_iff, List.mem_range]
  obtain ⟨s1, s2, s3⟩ := List.pairwise_append.mp hs
  obtain ⟨s4, s5⟩ := List.pairwise_cons.mp s2
  have j8 : j < 8 := (mem j).mpr (by simp)
  -- who comes behind j in the order stands behind it
  have behind : ∀ y, y < 8 → pathLt b j y = true → y ∈ post := fun y hy h => by
    rcases List.mem_append.mp ((mem y).mp hy) with q | q
    · have := s3 y q j (.head _)
      rw [pathLt_asymm h] at this; cases this
    · rcases List.mem_cons.mp q with rfl | q
      · have := lexI_irr (path b y)
        have h : lexI (path b y) (path b y) = true := h
        rw [this] at h; cases h
      · exact q
  refine ⟨fun hf y hy ha => ?_, fun hn => ?_⟩
  · have hpost := behind y (hW y hy) ha.lt
    obtain ⟨p1, p2, rfl⟩ := List.append_of_mem hpost
    have : freeN b W (dep b j) (p1 ++ y :: p2) = false := freeN_run hy ha.dep fun z hz => by
      have h1 : lexI (path b j) (path b z) = true := s4 z (List.mem_append_left _ hz)
      have h2 : lexI (path b z) (path b y) = true := (List.pairwise_append.mp s5).2.2 z hz y (.head _)
      obtain ⟨c, r, e⟩ := ha
      rw [e] at h2
      obtain ⟨d, r', e2⟩ := lex_between h1 h2
      exact An.dep ⟨d, r', e2⟩
    rw [this] at hf; cases hf
  · cases q : freeN b W (dep b j) post with
    | true => rfl
    | false =>
      obtain ⟨p, y, r, rfl, hy, hd, hp2⟩ := freeN_no q
      exfalso
      have hjy : lexI (path b j) (path b y) = true := s4 y (by simp)
      rcases lex_split hjy with ⟨c, r', e⟩ | ⟨s, a, c, p', q', e1, e2, hac⟩
      · exact hn y hy ⟨c, r', e⟩
      · obtain ⟨u, hu, eu⟩ := prefix_job hb 8 y s c q' (hW y hy) (hW y hy) e2
        have du : dep b u ≤ dep b j := by
          show (path b u).length ≤ (path b j).length
          rw [eu, e1]; simp
        have hju : pathLt b j u = true := by
          show lexI (path b j) (path b u) = true
          rw [e1, eu]; exact lexI_div _ _ _ _ _ hac
        have hup := behind u hu hju
        rcases List.mem_append.mp hup with m | m
        · have := hp2 u m; (first | lia | omega)
        · rcases List.mem_cons.mp m with rfl | m
          · (first | lia | omega)
          · have hyu : lexI (path b y) (path b u) = true := (List.pairwise_cons.mp (List.pairwise_append.mp s5).2.1).1 u m
            cases q' with
            | nil =>
              have := path_inj hu (hW y hy) (by rw [eu, e2])
              subst this
              (first | lia | omega)
            | cons d q' =>
              have : lexI (path b u) (path b y) = true := by
                rw [e2, eu, show s ++ c :: d :: q' = (s ++ [c]) ++ d :: q' by simp]
                exact lexI_pre _ _ _
              rw [lexI_asymm this] at hyu; cases hyu
/-! the same of the texts -/
noncomputable def wd (d j : Nat) : Str := ⟨(List.replicate (d + 1) 46 ++ nmL j).toArray⟩
theorem more_wd : ∀ d < 9, ∀ j < 8, moreOf (wd d j) = ⟨(List.replicate (d + 2) 46).toArray⟩ := by decide +kernel
theorem starts_wd : ∀ d < 9, ∀ e < 9, ∀ j < 8, Txt.startswith (wd e j) ⟨(List.replicate (d + 2) 46).toArray⟩ = decide (d < e) := by decide +kernel
theorem wd_sz : ∀ d < 9, ∀ j < 8, (wd d j).cps.size ≤ 100 ∧ PyData.strOk (wd d j) = true := by decide +kernel
theorem dotN_wd (b : Nat → Nat) (j : Nat) : dotN b j = wd (dep b j) j := rfl
theorem dotN_inj {i j : Nat} (hi : i < 8) (hj : j < 8) (h : dotN b i = dotN b j) : i = j := Classical.byContradiction fun e => by
  have h1 := slt_row (b := b) hi hj
  have h2 := slt_row (b := b) hj hi
  rw [h] at h1 h2
  rw [slt_eq, lexI_irr] at h1 h2
  have := (rowLt_ok b).total i j hi hj e h1.symm
  rw [← h2] at this; cases this
theorem mem_dot {W : List Nat} (hW : ∀ x ∈ W, x < 8) {o : Nat} (ho : o < 8) : dotN b o ∈ W.map (dotN b) ↔ o ∈ W := by
  refine ⟨fun h => ?_, fun h => List.mem_map_of_mem h⟩
  obtain ⟨x, hx, e⟩ := List.mem_map.mp h
  rwa [← dotN_inj (hW x hx) ho e]
theorem freeW_eq {W : List Nat} (hW : ∀ x ∈ W, x < 8) {d : Nat} (hd : d < 9) : ∀ {l : List Nat}, (∀ x ∈ l, x < 8) → freeW ⟨(List.replicate (d + 2) 46).toArray⟩ (W.map (dotN b)) (l.map (dotN b)) = freeN b W d l
  | [], _ => rfl
  | o :: l, h => by
    have o8 := h o (.head _)
    have := dep_le b o
    rw [List.map_cons, freeW_cons, freeN_cons, freeW_eq hW hd fun x hx => h x (.tail _ hx)]
    rw [dotN_wd b o, starts_wd d hd (dep b o) (by (first | lia | omega)) o o8, ← dotN_wd]
    by_cases q : d < dep b o
    · rw [if_pos (decide_eq_true q), if_pos q]
      by_cases m : o ∈ W
      · rw [if_pos m, if_pos ((mem_dot hW o8).mpr m)]
      · rw [if_neg m, if_neg (fun c => m ((mem_dot hW o8).mp c))]
    · rw [if_neg (by simpa using q), if_neg q]
theorem after_eq {j : Nat} (hj : j < 8) {post : List Nat} : ∀ {pre : List Nat}, (∀ x ∈ pre, x < 8 ∧ x ≠ j) → afterW (dotN b j) ((pre ++ j :: post).map (dotN b)) = post.map (dotN b)
  | [], _ => by rw [List.nil_append, List.map_cons, afterW_cons, if_pos rfl]
  | x :: pre, h => by
    obtain ⟨h1, h2⟩ := h x (.head _)
    rw [List.cons_append, List.map_cons, afterW_cons, if_neg (fun e => h2 (dotN_inj h1 hj e))]
    exact after_eq hj fun y hy => h y (.tail _ hy)
theorem free_iff (hb : ∀ k < 8, b k ≤ k) {js W : List Nat} {j : Nat} (hp : js.Perm (List.range 8)) (hs : js.Pairwise fun i j => pathLt b i j = true) (hW : ∀ x ∈ W, x < 8) (hj : j < 8) :
    freeOf (js.map (dotN b)) (W.map (dotN b)) (dotN b j) = true ↔ ∀ y ∈ W, ¬ An b j y := by
  have h8 : ∀ x ∈ js, x < 8 := fun x hx => List.mem_range.mp (hp.mem_iff.mp hx)
  have hm : j ∈ js := hp.mem_iff.mpr (List.mem_range.mpr hj)
  obtain ⟨pre, post, rfl⟩ := List.append_of_mem hm
  have hpre : ∀ x ∈ pre, x < 8 ∧ x ≠ j := fun x hx => by
    refine ⟨h8 x (List.mem_append_left _ hx), fun e => ?_⟩
    subst e
    have : pathLt b x x = true := (List.pairwise_append.mp hs).2.2 x hx x (.head _)
    have h0 : pathLt b x x = false := lexI_irr _
    rw [h0] at this; cases this
  rw [← freeN_iff hb hp hs hW, freeOf, after_eq hj hpre, dotN_wd b j, more_wd (dep b j) (by have := dep_le b j; (first | lia | omega)) j hj]
  rw [freeW_eq hW (by have := dep_le b j; (first | lia | omega)) fun x hx => h8 x (by simp [hx])]
noncomputable abbrev frW (b : Nat → Nat) (js W : List Nat) (x : Nat) : Bool := freeOf (js.map (dotN b)) (W.map (dotN b)) (dotN b x)
theorem hu_ok (hb : ∀ k < 8, b k ≤ k) {js ks : List Nat} (hp : js.Perm (List.range 8)) (hs : js.Pairwise fun i j => pathLt b i j = true) (hk : ks.Perm (List.range 8)) (hks : ks.Pairwise (fun i j => rowLt b i j = true)) :
    HuOk ks (dep b) b (An b) (frW b js) := by
  have k8 : ∀ x, x ∈ ks ↔ x < 8 := fun x => by rw [hk.mem_iff, List.mem_range]
  refine ⟨fun W hW x hx => free_iff hb hp hs (fun y hy => (k8 y).mp (hW y hy)) ((k8 x).mp hx), fun x _ y _ h => h.dep, fun y hy h => ?_, fun x hx y hy h => ?_, fun x hx => dep_pos hb ((k8 x).mp hx), ?_, hk.nodup_iff.mpr List.nodup_range⟩
  · have := An.up hb ((k8 y).mp hy) h
    exact ⟨(k8 _).mpr this.1, this.2⟩
  · obtain ⟨z, hz, h2⟩ := An.down hb ((k8 x).mp hx) ((k8 y).mp hy) h
    exact ⟨z, (k8 z).mpr hz, h2⟩
  · refine hks.imp fun {i j} h => ?_
    unfold rowLt tupLt at h
    have ei : plen b i = (dep b i : Int) := rfl
    have ej : plen b j = (dep b j : Int) := rfl
    rw [ei, ej] at h
    by_cases e : -(dep b i : Int) = -(dep b j : Int)
    · (first | lia | omega)
    · rw [if_neg e] at h
      have := of_decide_eq_true h
      (first | lia | omega)
end
end Pl
end
section
set_option maxRecDepth 100000
namespace Pl
section
variable {b : Nat → Nat}
theorem hourGo_eq (js W : List Nat) : ∀ (l : List Nat) (z : Nat), hourGo (js.map (dotN b)) (W.map (dotN b)) (l.map (dotN b)) (z : Int) = (goH (frW b js W) l z).map (dotN b)
  | [], _ => rfl
  | x :: l, z => by
    rw [List.map_cons, hourGo_cons, goH_cons]
    by_cases c : 0 < z ∧ frW b js W x = true
    · rw [if_pos c, if_pos ⟨by (first | lia | omega), c.2⟩, show (z : Int) - 1 = ((z - 1 : Nat) : Int) by (first | lia | omega)]
      exact hourGo_eq js W l (z - 1)
    · rw [if_neg c, if_neg (fun q => c ⟨by (first | lia | omega), q.2⟩), List.map_cons, hourGo_eq js W l z]
theorem hoursF_eq {js ks : List Nat} {ns : List Int} {z : Nat → Nat} {L n : Nat} (h1 : ∀ j, j < n → ∃ st, gnext ns (gst ns j) = .yld (z j : Int) st) (h2 : n ≤ L → gnext ns (gst ns n) = .stop)
    (hL : Wt (frW b js) z ks L = []) (hL2 : ∀ t, t < L → Wt (frW b js) z ks t ≠ []) (h20 : L < 20) :
    ∀ (f j : Nat), j ≤ min L n → min L n - j < f → hoursF (js.map (dotN b)) ns f j ((Wt (frW b js) z ks j).map (dotN b)) = (min L n, (Wt (frW b js) z ks (min L n)).map (dotN b))
  | 0, j, _, h => absurd h (Nat.not_lt_zero _)
  | f + 1, j, hj, hf => by
    rw [hoursF]
    by_cases e : j = n
    · have : gnext ns (gst ns j) = .stop := by rw [e]; exact h2 (by (first | lia | omega))
      rw [this, show min L n = j by (first | lia | omega)]
    · obtain ⟨st, hst⟩ := h1 j (by (first | lia | omega))
      rw [hst]
      by_cases c : Wt (frW b js) z ks j = []
      · have : ¬ j < L := fun q => hL2 j q c
        simp only [c, List.map_nil, true_or, if_true]
        rw [show min L n = j by (first | lia | omega), c]; rfl
      · have hjL : j < L := by
          refine Nat.lt_of_le_of_ne (by (first | lia | omega)) fun q => c ?_
          rw [q]; exact hL
        have c2 : (Wt (frW b js) z ks j).map (dotN b) ≠ [] := by simpa using c
        simp only
        rw [if_neg (by rintro (q | q); exact c2 q; (first | lia | omega)), hourGo_eq]
        have ih := hoursF_eq h1 h2 hL hL2 h20 f (j + 1) (by (first | lia | omega)) (by (first | lia | omega))
        exact ih
end
/-! the sizes -/
theorem stp_bd (c : Int) (k : Nat) : 1 ≤ stp c k ∧ stp c k ≤ 2 + k := by
  induction k with
  | zero => show 1 ≤ 1 + c % 2 ∧ 1 + c % 2 ≤ 2 + ((0 : Nat) : Int); (first | lia | omega)
  | succ k ih =>
    show 1 ≤ stp c k + c / 2 ^ (k + 1) % 2 ∧ stp c k + c / 2 ^ (k + 1) % 2 ≤ 2 + ((k + 1 : Nat) : Int)
    obtain ⟨d, hd⟩ : ∃ d, c / 2 ^ (k + 1) = d := ⟨_, rfl⟩
    rw [hd]
    (first | lia | omega)
theorem stp_mono (c : Int) (k : Nat) : stp c k ≤ stp c (k + 1) := by
  show stp c k ≤ stp c k + c / 2 ^ (k + 1) % 2
  obtain ⟨d, hd⟩ : ∃ d, c / 2 ^ (k + 1) = d := ⟨_, rfl⟩
  rw [hd]
  (first | lia | omega)
theorem stp_le (c : Int) {i j : Nat} (h : i ≤ j) : stp c i ≤ stp c j := by
  induction j with
  | zero => rw [show i = 0 by (first | lia | omega)]; exact Int.le_refl _
  | succ j ih =>
    by_cases e : i = j + 1
    · rw [e]; exact Int.le_refl _
    · exact Int.le_trans (ih (by (first | lia | omega))) (stp_mono c j)
noncomputable def zz (c : Int) (t : Nat) : Nat := (stp c (min t 3)).toNat
theorem zz_eq (c : Int) (t : Nat) : (zz c t : Int) = stp c (min t 3) := by
  have := (stp_bd c (min t 3)).1
  unfold zz; (first | lia | omega)
theorem zz_mono (c : Int) (s t : Nat) (h : s ≤ t) : zz c s ≤ zz c t := by
  have := stp_le c (show min s 3 ≤ min t 3 by (first | lia | omega))
  unfold zz; (first | lia | omega)
theorem zz_pos (c : Int) (t : Nat) : 1 ≤ zz c t := by
  have := (stp_bd c (min t 3)).1
  unfold zz; (first | lia | omega)
theorem gn_yld {ns : List Int} {i : Nat} {o : Option Int} {x : Int} (h : ns[i]? = some x) (h1 : x ≠ 127) (h2 : x ≠ 0) : gnext ns (.run i o) = .yld x (.run (i + 1) (some x)) := by simp [gnext, h, h1, h2]
theorem gn_rep {ns : List Int} {i : Nat} {v : Int} (h : ns[i]? = some 0) : gnext ns (.run i (some v)) = .yld v (.rep v) := by simp [gnext, h]
theorem gn_127 {ns : List Int} {i : Nat} {o : Option Int} (h : ns[i]? = some 127) : gnext ns (.run i o) = .stop := by simp [gnext, h]
theorem gn_none {ns : List Int} {i : Nat} {o : Option Int} (h : ns[i]? = none) : gnext ns (.run i o) = .stop := by simp [gnext, h]
theorem steps4 (c : Int) : stepsOf c 3 = [stp c 0, stp c 1, stp c 2, stp c 3] := rfl
theorem gst_run {c : Int} (tl : List Int) : ∀ j, j ≤ 4 → gst (stepsOf c 3 ++ tl) j = .run j (if j = 0 then none else some (stp c (j - 1))) ∧ (j < 4 → gnext (stepsOf c 3 ++ tl) (.run j (if j = 0 then none else some (stp c (j - 1)))) = .yld (zz c j : Int) (.run (j + 1) (some (stp c j)))) := by
  have nx : ∀ (j : Nat) (o : Option Int), j < 4 → gnext (stepsOf c 3 ++ tl) (.run j o) = .yld (zz c j : Int) (.run (j + 1) (some (stp c j))) := fun j o hj => by
    have e : (stepsOf c 3 ++ tl)[j]? = some (stp c j) := by
      rw [steps4]
      revert j
      exact lt4 rfl rfl rfl rfl
    have hb := stp_bd c j
    rw [gn_yld e (by (first | lia | omega)) (by (first | lia | omega)), zz_eq, show min j 3 = j by (first | lia | omega)]
  intro j
  induction j with
  | zero => exact fun _ => ⟨rfl, fun h => nx 0 _ h⟩
  | succ j ih =>
    intro hj
    refine ⟨?_, fun h => nx _ _ h⟩
    rw [gst_succ, (ih (by (first | lia | omega))).1, (ih (by (first | lia | omega))).2 (by (first | lia | omega))]
    simp
theorem g_four {c : Int} (tl : List Int) : gst (stepsOf c 3 ++ tl) 4 = .run 4 (some (stp c 3)) := (gst_run tl 4 (Nat.le_refl _)).1
theorem g_lt {c : Int} (tl : List Int) {j : Nat} (h : j < 4) : gnext (stepsOf c 3 ++ tl) (gst (stepsOf c 3 ++ tl) j) = .yld (zz c j : Int) (.run (j + 1) (some (stp c j))) := by
  rw [(gst_run tl j (by (first | lia | omega))).1]; exact (gst_run tl j (by (first | lia | omega))).2 h
theorem at_four {c : Int} (x : Int) (tl : List Int) : (stepsOf c 3 ++ x :: tl)[4]? = some x := by rw [steps4]; rfl
theorem g_rep {c : Int} (tl : List Int) : ∀ j, 4 ≤ j → gnext (stepsOf c 3 ++ 0 :: tl) (gst (stepsOf c 3 ++ 0 :: tl) j) = .yld (zz c j : Int) (.rep (stp c 3))
  | 0, h => by (first | lia | omega)
  | j + 1, h => by
    by_cases e : j + 1 = 4
    · rw [e, g_four, gn_rep (at_four _ _), zz_eq]; rfl
    · have ih := g_rep (c := c) tl j (by (first | lia | omega))
      rw [gst_succ, ih]
      show gnext _ (.rep (stp c 3)) = _
      rw [gnext, zz_eq, show min (j + 1) 3 = 3 by (first | lia | omega)]
theorem g_stop1 {c : Int} (tl : List Int) : gnext (stepsOf c 3 ++ 127 :: tl) (gst (stepsOf c 3 ++ 127 :: tl) 4) = .stop := by
  rw [g_four, gn_127 (at_four _ _)]
theorem g_stop2 {c : Int} : gnext (stepsOf c 3 ++ []) (gst (stepsOf c 3 ++ []) 4) = .stop := by
  rw [g_four, gn_none (by rw [List.append_nil, steps4]; rfl)]
theorem g_end {ns : List Int} {n : Nat} (h : gnext ns (gst ns n) = .stop) : ∀ j, n ≤ j → gnext ns (gst ns j) = .stop
  | 0, hj => by rw [show n = 0 by (first | lia | omega)] at h; exact h
  | j + 1, hj => by
    by_cases e : n = j + 1
    · rw [← e]; exact h
    · have ih := g_end h j (by (first | lia | omega))
      rw [gst_succ, ih]
      exact ih
theorem tail_facts (c : Int) (t : Nat) (ht : t < 3) : (∀ j, gnext (stepsOf c 3 ++ tailOf t) (gst (stepsOf c 3 ++ tailOf t) j) ≠ .fail) ∧
    (∀ j, j < (if t = 0 then 25 else 4) → ∃ st, gnext (stepsOf c 3 ++ tailOf t) (gst (stepsOf c 3 ++ tailOf t) j) = .yld (zz c j : Int) st) ∧
    (t ≠ 0 → gnext (stepsOf c 3 ++ tailOf t) (gst (stepsOf c 3 ++ tailOf t) 4) = .stop) := by
  revert t
  refine lt3 ?_ ?_ ?_
  · skip
    have all : ∀ j, ∃ st, gnext (stepsOf c 3 ++ [0, 1]) (gst (stepsOf c 3 ++ [0, 1]) j) = .yld (zz c j : Int) st := fun j => by
      by_cases h : j < 4
      · exact ⟨_, g_lt _ h⟩
      · exact ⟨_, g_rep _ j (by (first | lia | omega))⟩
    refine ⟨fun j => ?_, fun j _ => all j, fun h => absurd rfl h⟩
    obtain ⟨st, e⟩ := all j
    show gnext (stepsOf c 3 ++ [0, 1]) (gst (stepsOf c 3 ++ [0, 1]) j) ≠ .fail
    rw [e]; simp
  · skip
    have st : gnext (stepsOf c 3 ++ [127, 1]) (gst (stepsOf c 3 ++ [127, 1]) 4) = .stop := g_stop1 _
    refine ⟨fun j => ?_, fun j h => ⟨_, g_lt _ h⟩, fun _ => st⟩
    show gnext (stepsOf c 3 ++ [127, 1]) (gst (stepsOf c 3 ++ [127, 1]) j) ≠ .fail
    by_cases h : j < 4
    · rw [g_lt _ h]; simp
    · rw [g_end st j (by (first | lia | omega))]; simp
  · skip
    have st : gnext (stepsOf c 3 ++ []) (gst (stepsOf c 3 ++ []) 4) = .stop := g_stop2
    refine ⟨fun j => ?_, fun j h => ⟨_, g_lt _ h⟩, fun _ => st⟩
    show gnext (stepsOf c 3 ++ []) (gst (stepsOf c 3 ++ []) j) ≠ .fail
    by_cases h : j < 4
    · rw [g_lt _ h]; simp
    · rw [g_end st j (by (first | lia | omega))]; simp
theorem g_neg {c : Int} : gnext (stepsOf c 3 ++ [-1, 0]) (gst (stepsOf c 3 ++ [-1, 0]) 4) = .yld (-1) (.run 5 (some (-1))) := by
  rw [g_four, gn_yld (at_four _ _) (by decide) (by decide)]
theorem g_neg5 {c : Int} : ∀ j, 5 ≤ j → gnext (stepsOf c 3 ++ [-1, 0]) (gst (stepsOf c 3 ++ [-1, 0]) j) = .yld (-1) (.rep (-1))
  | 0, h => by (first | lia | omega)
  | j + 1, h => by
    by_cases e : j + 1 = 5
    · have e4 : j = 4 := by (first | lia | omega)
      subst e4
      rw [gst_succ, g_neg]
      show gnext _ (.run 5 (some (-1))) = _
      rw [gn_rep (show (stepsOf c 3 ++ [-1, 0])[5]? = some 0 from rfl)]
    · have ih := g_neg5 (c := c) j (by (first | lia | omega))
      rw [gst_succ, ih]
      rfl
theorem told_facts (c : Int) : (∀ j, gnext (stepsOf c 3 ++ [-1, 0]) (gst (stepsOf c 3 ++ [-1, 0]) j) ≠ .fail) ∧ toldF (stepsOf c 3 ++ [-1, 0]) 10 0 [] = stepsOf c 3 ++ [-1, -1, -1] := by
  refine ⟨fun j => ?_, ?_⟩
  · by_cases h : j < 4
    · rw [g_lt _ h]; simp
    · by_cases h5 : j = 4
      · rw [h5, g_neg]; simp
      · rw [g_neg5 j (by (first | lia | omega))]; simp
  · have t4 : ∀ (f j : Nat) (acc : List Int), j < 4 → acc.length = j → toldF (stepsOf c 3 ++ [-1, 0]) (f + 1) j acc = toldF (stepsOf c 3 ++ [-1, 0]) f (j + 1) (acc ++ [stp c j]) := fun f j acc hj ha => by
      rw [toldF_succ, g_lt _ hj]
      simp only
      rw [if_neg (by (first | lia | omega)), zz_eq, show min j 3 = j by (first | lia | omega)]
    rw [t4 9 0 [] (by decide) rfl, t4 8 1 _ (by decide) rfl, t4 7 2 _ (by decide) rfl, t4 6 3 _ (by decide) rfl]
    rw [toldF_succ, g_neg]
    simp only
    rw [if_neg (by simp), toldF_succ, g_neg5 _ (by decide)]
    simp only
    rw [if_neg (by simp), toldF_succ, g_neg5 _ (by decide)]
    simp [steps4]
/-! the least -/
theorem Zs_ge {z : Nat → Nat} (hz : ∀ t, 1 ≤ z t) : ∀ k, k ≤ Zs z k
  | 0 => Nat.le_refl _
  | k + 1 => by have := Zs_ge hz k; have := hz k; rw [Zs_succ]; (first | lia | omega)
theorem Zs_mono (z : Nat → Nat) {h r : Nat} (e : h ≤ r) : Zs z h ≤ Zs z r := by
  induction r with
  | zero => rw [show h = 0 by (first | lia | omega)]; exact Nat.le_refl _
  | succ r ih =>
    by_cases q : h = r + 1
    · rw [q]; exact Nat.le_refl _
    · have := ih (by (first | lia | omega)); rw [Zs_succ]; (first | lia | omega)
theorem lhrs_spec (c : Int) (N : Nat) : ∀ (f h : Nat), N ≤ Zs (zz c) (h + f) → ∃ r, lhrs (stepsOf c 3) f ((N : Int) - (Zs (zz c) h : Nat)) h = r ∧ h ≤ r ∧ N ≤ Zs (zz c) r ∧ ∀ k, h ≤ k → k < r → Zs (zz c) k < N
  | 0, h, hf => ⟨h, rfl, Nat.le_refl _, hf, fun k h1 h2 => by (first | lia | omega)⟩
  | f + 1, h, hf => by
    rw [lhrs_succ]
    by_cases q : Zs (zz c) h < N
    · rw [if_pos (by (first | lia | omega))]
      have e : (stepsOf c 3).getD (min h 3) 0 = (zz c h : Int) := by
        rw [zz_eq, steps4]
        obtain ⟨i, hi, h4⟩ : ∃ i, min h 3 = i ∧ i < 4 := ⟨_, rfl, by (first | lia | omega)⟩
        rw [hi]
        clear hi
        revert i
        exact lt4 rfl rfl rfl rfl
      rw [e]
      obtain ⟨r, h1, h2, h3, h4⟩ := lhrs_spec c N f (h + 1) (by rw [show h + 1 + f = h + (f + 1) by (first | lia | omega)]; exact hf)
      rw [Zs_succ] at h1
      refine ⟨r, ?_, by (first | lia | omega), h3, fun k hk hr => ?_⟩
      · rw [← h1]
        congr 1
        (first | lia | omega)
      · by_cases ek : k = h
        · rw [ek]; exact q
        · exact h4 k (by (first | lia | omega)) hr
    · rw [if_neg (by (first | lia | omega))]
      exact ⟨h, rfl, Nat.le_refl _, by (first | lia | omega), fun k h1 h2 => by (first | lia | omega)⟩
theorem nD_depths {b : Nat → Nat} {ks : List Nat} (hk : ks.Perm (List.range 8)) (l : Nat) : ((depths b).filter fun d => decide ((l : Int) < d)).length = nD (dep b) (l + 1) ks := by
  unfold nD depths
  rw [hk.countP_eq, List.countP_eq_length_filter, List.filter_map, List.length_map]
  congr 1
  refine List.filter_congr fun x _ => ?_
  show decide ((l : Int) < plen b x) = _
  have : plen b x = (dep b x : Int) := rfl
  rw [this]
  exact decide_eq_decide.mpr (by (first | lia | omega))
theorem least_facts {b : Nat → Nat} {ks : List Nat} (hk : ks.Perm (List.range 8)) (c : Int) : ∀ M : Nat, ∃ L : Nat, leastF (depths b) (stepsOf c 3) M = L ∧
    (∀ g, g < M → ∀ h, Zs (zz c) h < nD (dep b) (g + 1) ks → g + h + 1 ≤ L) ∧ (1 ≤ L → ∃ g r, g < M ∧ g + r = L ∧ ∀ k, k < r → Zs (zz c) k < nD (dep b) (g + 1) ks)
  | 0 => ⟨0, rfl, fun g h => by (first | lia | omega), fun h => by (first | lia | omega)⟩
  | M + 1 => by
    obtain ⟨L, e, h1, h2⟩ := least_facts hk c M
    have n8 : nD (dep b) (M + 1) ks ≤ 8 := by
      have : nD (dep b) (M + 1) ks ≤ ks.length := List.countP_le_length
      rw [hk.length_eq, List.length_range] at this
      exact this
    obtain ⟨r, r1, _, r3, r4⟩ := lhrs_spec c (nD (dep b) (M + 1) ks) 9 0 (by have := Zs_ge (zz_pos c) (0 + 9); (first | lia | omega))
    refine ⟨max L (M + r), ?_, fun g hg h hh => ?_, fun hpos => ?_⟩
    · rw [leastF_succ, e, nD_depths hk]
      have r1 : lhrs (stepsOf c 3) 9 (nD (dep b) (M + 1) ks : Nat) 0 = r := by
        rw [← r1]; simp [Zs]
      rw [r1]
      clear h1 h2 n8 r1 r3 r4
      lia
    · by_cases q : g = M
      · subst q
        have : h < r := Nat.lt_of_not_le fun q => by
          have := Zs_mono (zz c) q
          (first | lia | omega)
        (first | lia | omega)
      · have := h1 g (by (first | lia | omega)) h hh
        (first | lia | omega)
    · by_cases q : L ≤ M + r
      · exact ⟨M, r, by (first | lia | omega), by (first | lia | omega), fun k hk => r4 k (Nat.zero_le _) hk⟩
      · obtain ⟨g, r', g1, g2, g3⟩ := h2 (by (first | lia | omega))
        exact ⟨g, r', by (first | lia | omega), by (first | lia | omega), g3⟩
theorem hours_ok {b : Nat → Nat} (hb : ∀ k < 8, b k ≤ k) {js ks : List Nat} (hp : js.Perm (List.range 8)) (hs : js.Pairwise fun i j => pathLt b i j = true) (hk : ks.Perm (List.range 8)) (hks : ks.Pairwise (fun i j => rowLt b i j = true))
    (c : Int) {M : Nat} (hM : (M : Int) ∈ depths b) (hM2 : ∀ a ∈ depths b, a ≤ M) {t : Nat} (ht : t < 3) {j : Nat} {wa : List Str} (he : hoursF (js.map (dotN b)) (stepsOf c 3 ++ tailOf t) 25 0 (ks.map (dotN b)) = (j, wa)) :
    if t = 0 ∨ leastF (depths b) (stepsOf c 3) M < 5 then (j : Int) = leastF (depths b) (stepsOf c 3) M ∧ wa.length = 0 else j = 4 ∧ 0 < wa.length := by
  have H := hu_ok hb hp hs hk hks
  have k8 : ∀ x, x ∈ ks ↔ x < 8 := fun x => by rw [hk.mem_iff, List.mem_range]
  obtain ⟨L, e, h1, h2⟩ := least_facts hk c M (b := b)
  have top : ∀ x ∈ ks, dep b x ≤ M := fun x hx => by
    have := hM2 (plen b x) (List.mem_map_of_mem (List.mem_range.mpr ((k8 x).mp hx)))
    have e : plen b x = (dep b x : Int) := rfl
    (first | lia | omega)
  have hL : ∀ g h, Zs (zz c) h < nD (dep b) (g + 1) ks → g + h + 1 ≤ L := fun g h hh => by
    refine h1 g ?_ h hh
    obtain ⟨x, hx, hd⟩ := List.countP_pos_iff.mp (show 0 < nD (dep b) (g + 1) ks by (first | lia | omega))
    have := of_decide_eq_true hd
    have := top x hx
    (first | lia | omega)
  obtain ⟨x, hx, ex⟩ := List.mem_map.mp hM
  have exd : plen b x = (dep b x : Int) := rfl
  have x8 := List.mem_range.mp hx
  have d1 := dep_pos hb x8
  have L1 : 1 ≤ L := by
    have := hL 0 0 (show 0 < nD (dep b) 1 ks from List.countP_pos_iff.mpr ⟨x, (k8 x).mpr x8, decide_eq_true d1⟩)
    (first | lia | omega)
  obtain ⟨g, r, g1, g2, g3⟩ := h2 L1
  clear h1 h2
  have nM : nD (dep b) (g + 1) ks ≠ 0 := by
    have : 0 < nD (dep b) (g + 1) ks := List.countP_pos_iff.mpr ⟨x, (k8 x).mpr x8, decide_eq_true (by (first | lia | omega))⟩
    (first | lia | omega)
  have n8 : nD (dep b) (g + 1) ks ≤ 8 := by
    have : nD (dep b) (g + 1) ks ≤ ks.length := List.countP_le_length
    rw [hk.length_eq, List.length_range] at this
    exact this
  have M8 : M ≤ 8 := by have := dep_le b x; (first | lia | omega)
  have r1 : 1 ≤ r := Nat.pos_of_ne_zero fun q => by
    have := hL g 0 (show 0 < nD (dep b) (g + 1) ks by (first | lia | omega))
    (first | lia | omega)
  have hh := g3 (r - 1) (by (first | lia | omega))
  have r8 : r ≤ 8 := by have := Zs_ge (zz_pos c) (r - 1); (first | lia | omega)
  obtain ⟨W1, W2⟩ := hu_all H (zz_mono c) hL (show g + (r - 1) + 1 = L by (first | lia | omega)) hh
  obtain ⟨_, f2, f3⟩ := tail_facts c t ht
  have eq := hoursF_eq (b := b) (js := js) (ks := ks) (n := if t = 0 then 25 else 4) (L := L) f2 (fun hn => by
    by_cases t0 : t = 0
    · rw [if_pos t0] at hn; (first | lia | omega)
    · rw [if_neg t0]; exact f3 t0) W1 W2 (by (first | lia | omega)) 25 0 (by (first | lia | omega)) (by split <;> (first | lia | omega))
  have e0 : Wt (frW b js) (zz c) ks 0 = ks := rfl
  rw [e0, he] at eq
  injection eq with ej ew
  rw [e]
  by_cases q : t = 0 ∨ (L : Int) < 5
  · rw [if_pos q]
    have : min L (if t = 0 then 25 else 4) = L := by
      rcases q with q | q
      · rw [if_pos q]; (first | lia | omega)
      · split <;> (first | lia | omega)
    rw [this] at ej ew
    rw [W1] at ew
    exact ⟨by (first | lia | omega), by rw [ew]; rfl⟩
  · rw [if_neg q]
    have t0 : ¬ t = 0 := fun z => q (.inl z)
    have : min L (if t = 0 then 25 else 4) = 4 := by rw [if_neg t0]; (first | lia | omega)
    rw [this] at ej ew
    refine ⟨ej, ?_⟩
    rw [ew, List.length_map]
    exact List.length_pos_iff.mpr (W2 4 (by (first | lia | omega)))
end Pl
end
section
set_option maxRecDepth 100000
open Pl (boss_le)
theorem offAt {LA : List Addr} {l : List (Addr × Obj)} (h : ∀ p ∈ l, p.1 ∉ LA) (i : Nat) {p : Addr × Obj} (hi : l[i]? = some p) : p.1 ∉ LA := h p (List.mem_of_getElem? hi)
theorem apart_nd {L pl nl cl : Addr} (l1 : @LT.lt Nat _ 120 L) (l2 : @LT.lt Nat _ 156 L) (lt1 : @LT.lt Nat _ (L + 4) cl) (lt2 : @LT.lt Nat _ cl nl) (lt4 : @LT.lt Nat _ nl pl) : [L + 1, L + 4, L + 3, pl, nl, cl, L + 2, 120, 156].Pairwise (· ≠ ·) := by
  have h01 : @LT.lt Nat _ (120) (156) := (by decide)
  have h12 : @LT.lt Nat _ (156) (L + 1) := (Nat.lt_succ_of_lt l2)
  have h23 : @LT.lt Nat _ (L + 1) (L + 2) := (Nat.lt_succ_self (L + 1))
  have h34 : @LT.lt Nat _ (L + 2) (L + 3) := (Nat.lt_succ_self (L + 2))
  have h45 : @LT.lt Nat _ (L + 3) (L + 4) := (Nat.lt_succ_self (L + 3))
  have h56 : @LT.lt Nat _ (L + 4) (cl) := lt1
  have h67 : @LT.lt Nat _ (cl) (nl) := lt2
  have h78 : @LT.lt Nat _ (nl) (pl) := lt4
  have h02 : @LT.lt Nat _ (120) (L + 1) := Nat.lt_trans h01 h12
  have h13 : @LT.lt Nat _ (156) (L + 2) := Nat.lt_trans h12 h23
  have h24 : @LT.lt Nat _ (L + 1) (L + 3) := Nat.lt_trans h23 h34
  have h35 : @LT.lt Nat _ (L + 2) (L + 4) := Nat.lt_trans h34 h45
  have h46 : @LT.lt Nat _ (L + 3) (cl) := Nat.lt_trans h45 h56
  have h57 : @LT.lt Nat _ (L + 4) (nl) := Nat.lt_trans h56 h67
  have h68 : @LT.lt Nat _ (cl) (pl) := Nat.lt_trans h67 h78
  have h03 : @LT.lt Nat _ (120) (L + 2) := Nat.lt_trans h02 h23
  have h14 : @LT.lt Nat _ (156) (L + 3) := Nat.lt_trans h13 h34
  have h25 : @LT.lt Nat _ (L + 1) (L + 4) := Nat.lt_trans h24 h45
  have h36 : @LT.lt Nat _ (L + 2) (cl) := Nat.lt_trans h35 h56
  have h47 : @LT.lt Nat _ (L + 3) (nl) := Nat.lt_trans h46 h67
  have h58 : @LT.lt Nat _ (L + 4) (pl) := Nat.lt_trans h57 h78
  have h04 : @LT.lt Nat _ (120) (L + 3) := Nat.lt_trans h03 h34
  have h15 : @LT.lt Nat _ (156) (L + 4) := Nat.lt_trans h14 h45
  have h26 : @LT.lt Nat _ (L + 1) (cl) := Nat.lt_trans h25 h56
  have h37 : @LT.lt Nat _ (L + 2) (nl) := Nat.lt_trans h36 h67
  have h48 : @LT.lt Nat _ (L + 3) (pl) := Nat.lt_trans h47 h78
  have h05 : @LT.lt Nat _ (120) (L + 4) := Nat.lt_trans h04 h45
  have h16 : @LT.lt Nat _ (156) (cl) := Nat.lt_trans h15 h56
  have h27 : @LT.lt Nat _ (L + 1) (nl) := Nat.lt_trans h26 h67
  have h38 : @LT.lt Nat _ (L + 2) (pl) := Nat.lt_trans h37 h78
  have h06 : @LT.lt Nat _ (120) (cl) := Nat.lt_trans h05 h56
  have h17 : @LT.lt Nat _ (156) (nl) := Nat.lt_trans h16 h67
  have h28 : @LT.lt Nat _ (L + 1) (pl) := Nat.lt_trans h27 h78
  have h07 : @LT.lt Nat _ (120) (nl) := Nat.lt_trans h06 h67
  have h18 : @LT.lt Nat _ (156) (pl) := Nat.lt_trans h17 h78
  have h08 : @LT.lt Nat _ (120) (pl) := Nat.lt_trans h07 h78
  exact List.pairwise_cons.mpr ⟨List.forall_mem_cons.mpr ⟨Nat.ne_of_lt h25, List.forall_mem_cons.mpr ⟨Nat.ne_of_lt h24, List.forall_mem_cons.mpr ⟨Nat.ne_of_lt h28, List.forall_mem_cons.mpr ⟨Nat.ne_of_lt h27, List.forall_mem_cons.mpr ⟨Nat.ne_of_lt h26, List.forall_mem_cons.mpr ⟨Nat.ne_of_lt h23, List.forall_mem_cons.mpr ⟨Nat.ne_of_gt h02, List.forall_mem_cons.mpr ⟨Nat.ne_of_gt h12, List.forall_mem_nil _⟩⟩⟩⟩⟩⟩⟩⟩, List.pairwise_cons.mpr ⟨List.forall_mem_cons.mpr ⟨Nat.ne_of_gt h45, List.forall_mem_cons.mpr ⟨Nat.ne_of_lt h58, List.forall_mem_cons.mpr ⟨Nat.ne_of_lt h57, List.forall_mem_cons.mpr ⟨Nat.ne_of_lt h56, List.forall_mem_cons.mpr ⟨Nat.ne_of_gt h35, List.forall_mem_cons.mpr ⟨Nat.ne_of_gt h05, List.forall_mem_cons.mpr ⟨Nat.ne_of_gt h15, List.forall_mem_nil _⟩⟩⟩⟩⟩⟩⟩, List.pairwise_cons.mpr ⟨List.forall_mem_cons.mpr ⟨Nat.ne_of_lt h48, List.forall_mem_cons.mpr ⟨Nat.ne_of_lt h47, List.forall_mem_cons.mpr ⟨Nat.ne_of_lt h46, List.forall_mem_cons.mpr ⟨Nat.ne_of_gt h34, List.forall_mem_cons.mpr ⟨Nat.ne_of_gt h04, List.forall_mem_cons.mpr ⟨Nat.ne_of_gt h14, List.forall_mem_nil _⟩⟩⟩⟩⟩⟩, List.pairwise_cons.mpr ⟨List.forall_mem_cons.mpr ⟨Nat.ne_of_gt h78, List.forall_mem_cons.mpr ⟨Nat.ne_of_gt h68, List.forall_mem_cons.mpr ⟨Nat.ne_of_gt h38, List.forall_mem_cons.mpr ⟨Nat.ne_of_gt h08, List.forall_mem_cons.mpr ⟨Nat.ne_of_gt h18, List.forall_mem_nil _⟩⟩⟩⟩⟩, List.pairwise_cons.mpr ⟨List.forall_mem_cons.mpr ⟨Nat.ne_of_gt h67, List.forall_mem_cons.mpr ⟨Nat.ne_of_gt h37, List.forall_mem_cons.mpr ⟨Nat.ne_of_gt h07, List.forall_mem_cons.mpr ⟨Nat.ne_of_gt h17, List.forall_mem_nil _⟩⟩⟩⟩, List.pairwise_cons.mpr ⟨List.forall_mem_cons.mpr ⟨Nat.ne_of_gt h36, List.forall_mem_cons.mpr ⟨Nat.ne_of_gt h06, List.forall_mem_cons.mpr ⟨Nat.ne_of_gt h16, List.forall_mem_nil _⟩⟩⟩, List.pairwise_cons.mpr ⟨List.forall_mem_cons.mpr ⟨Nat.ne_of_gt h03, List.forall_mem_cons.mpr ⟨Nat.ne_of_gt h13, List.forall_mem_nil _⟩⟩, List.pairwise_cons.mpr ⟨List.forall_mem_cons.mpr ⟨Nat.ne_of_lt h01, List.forall_mem_nil _⟩, List.pairwise_cons.mpr ⟨List.forall_mem_nil _, .nil⟩⟩⟩⟩⟩⟩⟩⟩⟩
section
variable {w : World} {mg mb : Str → Option Value} {g : Heap} {A : Around} {s : Shared} {E : Value → Shared → Prop} {Q : Flow → Shared → Prop}
set_option maxHeartbeats 4000000
theorem law_all (G : Gnd w mg mb g) (hroom : A.depth < 500) (hh : A.handled = none) (hu : A.units < 7000) (C1 : CodeHd g 124 120) (C2 : CodeHd g 158 156) {L fa sc : Addr} (hfr : A.frames = some [lEnv L fa])
   {c1 c2 c3 c4 : Obj} {v1 v2 v3 v4 : Option Value} {m : Str → Option Value} {vs : List Value} {ns : List Int}
   (F : Fr g L s.heap m) (N : News g L s.heap [(L + 4, c4), (L + 3, c3), (L + 2, c2), (L + 1, c1), (120, tabObj #[]), (156, tabObj #[])]) (d1 : c1.data = .cell v1) (d2 : c2.data = .cell v2) (d3 : c3.data = .cell v3) (d4 : c4.data = .cell v4)
   (hm : m "script" = some (.ref sc)) (hs : g.IsList sc vs.toArray) (hi : IntsAre vs ns) (h63 : ns.length ≤ 63)
   (l1 : @LT.lt Nat _ 120 L) (l2 : @LT.lt Nat _ 156 L)
   (hQ : ∀ h' tk gens' m' p1 p2, (AllBare s.gens → AllBare gens') → Fr g L h' m' → h'.get? 120 = some (tabObj p1) → h'.get? 156 = some (tabObj p2) → Q (.ret (.bool true)) { s with heap := h', toks := tk, gens := gens' }) :
   wpAny (model PG w) A (execs lBody (lEnv L fa)) Q E s := by
  refine law_s1 G hroom hh F N d1 d2 d3 d4 hm hs hi h63 l1 l2 fun h1 tk1 m1 cl dl nl pl f tf gl nmt kc kd kn o3 o4 hf hgl hnm e3 e4 mc md F1 N1 lt1 lt2 lt3 lt4 nd => ?_
  have u4 : @LT.lt Nat _ (L + 4) nl := Nat.lt_trans lt1 lt2
  have w4 : @LT.lt Nat _ (L + 4) pl := Nat.lt_trans u4 lt4
  have w3 : @LT.lt Nat _ (L + 3) pl := Nat.lt_of_succ_lt w4
  have w2 : @LT.lt Nat _ (L + 2) pl := Nat.lt_of_succ_lt w3
  have w1 : @LT.lt Nat _ (L + 1) pl := Nat.lt_of_succ_lt w2
  have w0 : @LT.lt Nat _ L pl := Nat.lt_of_succ_lt w1
  have c1l : @LT.lt Nat _ (L + 1) cl := Nat.lt_of_succ_lt (Nat.lt_of_succ_lt (Nat.lt_of_succ_lt lt1))
  have c0l : @LT.lt Nat _ L cl := Nat.lt_of_succ_lt c1l
  have m1l : @LT.lt Nat _ (L + 1) nl := Nat.lt_trans c1l lt2
  refine law_s2 G hroom hh (dv := .ref dl) (rest := [(nl, listOf (strValues nmt).toArray kn), (dl, listOf (strValues gl).toArray kd), (L + 3, o3), (L + 2, c2), (L + 1, c1), (120, tabObj #[]), (156, tabObj #[])]) (by exact F1) (by exact pickP N1 [0, 3, 4, 1, 2, 5, 6, 7, 8, 9] nilP) hf e4 mc md (Nat.ne_of_lt (Nat.lt_trans lt2 lt4)) (Nat.ne_of_lt w4)
    (consP (P := fun p => p.1 ≠ pl) (Nat.ne_of_lt lt4) (consP (Nat.ne_of_lt (Nat.lt_trans lt3 lt4)) (consP (Nat.ne_of_lt w3) (consP (Nat.ne_of_lt w2) (consP (Nat.ne_of_lt w1) (consP (Nat.ne_of_lt (Nat.lt_trans l1 w0)) (consP (Nat.ne_of_lt (Nat.lt_trans l2 w0)) nilP))))))) fun h2 tk2 m2 kp pls hps mc2 md2 F2 N2 hlt => ?_
  clear F1 N1 F N
  have PO := Pl.page_ok f
  refine law_s3 G hroom hh C1 (by exact F2) (by exact N2) hf hgl d1 mc2 md2 (Pl.pg_sizes f) PO.1 PO.2 nd.1 ⟨Nat.ne_of_gt w1, Nat.ne_of_gt c1l, Nat.ne_of_gt m1l, fun e => nd.2.2.2.2.1 e.symm, Nat.ne_of_lt (Nat.lt_succ_of_lt l1), Nat.ne_of_lt (Nat.lt_succ_of_lt l2)⟩ (fun p hp => Nat.ne_of_gt (Nat.lt_trans w1 (hlt p hp).1))
    (consP (P := fun p => p.1 ≠ 120) (Nat.ne_of_gt (Nat.lt_trans l1 w0)) (consP (Nat.ne_of_gt (Nat.lt_trans l1 c0l)) (consP (Nat.ne_of_gt (Nat.lt_add_right 4 l1)) (consP (Nat.ne_of_gt (Nat.lt_trans l1 (Nat.lt_of_succ_lt m1l))) (consP (fun e => nd.2.2.2.2.2.1 e.symm) (consP (Nat.ne_of_gt (Nat.lt_add_right 3 l1)) (consP (Nat.ne_of_gt (Nat.lt_add_right 2 l1)) (consP (Nat.ne_of_gt (Nat.lt_add_right 1 l1)) (consP (by decide) (fun p hp => Nat.ne_of_gt (Nat.lt_trans l1 (Nat.lt_trans w0 (hlt p hp).1)))))))))))) fun h3 tk3 X l signs o1 ps hIL hsg ho1 F3 N3 hoff => ?_
  clear F2 N2
  obtain ⟨LA, hLA⟩ : ∃ LA, l.map (·.1) = LA := ⟨_, rfl⟩
  obtain ⟨PA, hPA⟩ : ∃ PA, pls.map (·.1) = PA := ⟨_, rfl⟩
  rw [hLA] at hoff
  have H : Apart [L + 1, L + 4, L + 3, pl, nl, cl, L + 2, 120, 156] LA PA := by
    refine ⟨apart_nd l1 l2 lt1 lt2 lt4, fun a ha => ?_, fun a ha hq => ?_, fun a ha => ?_⟩
    · exact (List.forall_mem_cons (p := fun a => a ∉ LA)).mpr ⟨offAt hoff 0 rfl, List.forall_mem_cons.mpr ⟨offAt hoff 5 rfl, List.forall_mem_cons.mpr ⟨offAt hoff 6 rfl, List.forall_mem_cons.mpr ⟨offAt hoff 3 rfl, List.forall_mem_cons.mpr ⟨offAt hoff 7 rfl, List.forall_mem_cons.mpr ⟨offAt hoff 4 rfl, List.forall_mem_cons.mpr ⟨offAt hoff 1 rfl, List.forall_mem_cons.mpr ⟨offAt hoff 8 rfl, List.forall_mem_cons.mpr ⟨offAt hoff 2 rfl, List.forall_mem_nil _⟩⟩⟩⟩⟩⟩⟩⟩⟩ a ha
    · rw [← hPA] at hq
      obtain ⟨p, hp, e⟩ := List.mem_map.mp hq
      have h1 : @LT.lt Nat _ pl p.1 := (hlt p hp).1
      have h2 : @LE.le Nat _ a pl := (List.forall_mem_cons (p := fun a : Nat => a ≤ pl)).mpr ⟨Nat.le_of_lt w1, List.forall_mem_cons.mpr ⟨Nat.le_of_lt w4, List.forall_mem_cons.mpr ⟨Nat.le_of_lt w3, List.forall_mem_cons.mpr ⟨Nat.le_refl _, List.forall_mem_cons.mpr ⟨Nat.le_of_lt lt4, List.forall_mem_cons.mpr ⟨Nat.le_of_lt (Nat.lt_trans lt2 lt4), List.forall_mem_cons.mpr ⟨Nat.le_of_lt w2, List.forall_mem_cons.mpr ⟨Nat.le_of_lt (Nat.lt_trans l1 w0), List.forall_mem_cons.mpr ⟨Nat.le_of_lt (Nat.lt_trans l2 w0), List.forall_mem_nil _⟩⟩⟩⟩⟩⟩⟩⟩⟩ a ha
      exact Nat.lt_irrefl _ (Nat.lt_of_lt_of_le h1 (Nat.le_trans (Nat.le_of_eq e) h2))
    · rw [← hPA] at ha
      obtain ⟨p, hp, e⟩ := List.mem_map.mp ha
      rw [← e]
      exact dropP hoff 9 p hp
  have lz : signs.length ≤ 900000 := by
    have := congrArg List.length hsg
    rw [List.length_map] at this
    have := PO.1
    (first | lia | omega)
  have N3' : News g L h3 ((L + 1, o1) :: (L + 4, o4) :: (L + 3, o3) :: (pl, listOf (pls.map fun p => Value.ref p.1).toArray kp) :: (nl, listOf (strValues nmt).toArray kn) :: (cl, listOf ((List.range 8).map fun i => Value.int (f i) (tf i)).toArray kc) :: (L + 2, c2) :: (120, tabObj ps) :: (156, tabObj #[]) :: (l ++ pls)) := consP (N3 _ (.head _)) (consP (rightP (dropP N3 3) _ (atM 2 rfl)) (consP (rightP (dropP N3 3) _ (atM 3 rfl)) (consP (rightP (dropP N3 3) _ (.head _)) (consP (rightP (dropP N3 3) _ (atM 4 rfl)) (consP (rightP (dropP N3 3) _ (atM 1 rfl)) (consP (N3 _ (atM 1 rfl)) (consP (rightP (dropP N3 3) _ (atM 5 rfl)) (consP (N3 _ (atM 2 rfl)) (appP (leftP (dropP N3 3)) (dropP (rightP (dropP N3 3)) 6))))))))))
  refine law_s67 G hroom hh (by (first | lia | omega)) C2 (by exact F3) (by exact N3') H hLA hPA ho1 e4 e3 hIL lz hps hnm (fun js hp hs i hi => Pl.words_ok hp (Pl.signs_txt f hsg hp hs) i hi)
    fun h4 tk4 m4 l4 wl kw ws js co7 hjp hjs hws hIL4 hLA4 H4 mw m4o F4 N4 => ?_
  clear F3 N3
  have hws : ws.map (fun p => p.1) = js.map (dotN (bossOf f)) := hws
  obtain ⟨hT, hf3, hE⟩ := Pl.tail_ok hjp (Pl.signs_txt f hsg hjp hjs)
  refine law_s8 G hroom hh (by (first | lia | omega)) (by exact F4) (by exact N4) H4 hLA4 hPA ho1 hIL4 hT hf3 hE fun h5 tk5 l5 hIL5 hLA5 F5 N5 => ?_
  clear F4 N4
  have js8 : js.length = 8 := by rw [hjp.length_eq]; rfl
  have ws8 : ws.length = 8 := by have := congrArg List.length hws; rw [List.length_map, List.length_map] at this; (first | lia | omega)
  refine law_s910 G hroom hh (by exact F5) (by exact N5) H4 hLA5 hPA d2 (by (first | lia | omega)) mw fun h6 tk6 m6 rl kr rs c2' hrs mr m6o H6 F6 N6 => ?_
  clear F5 N5
  refine law_s11 G hroom hh (by (first | lia | omega)) C2 (by exact F6) (by exact N6) H6 hLA5 hPA e4 e3 hps hnm fun h7 tk7 m7 D ec out js2 tb' hk hks hout H7 mo m7o F7 N7 => ?_
  clear F6 N6
  have hrow : rs.map (·.1) = js2.map (dotN (bossOf f)) := by
    rw [hrs, hws]
    exact Pl.row_ok hjp hk hks
  refine law_s12 G hroom hh (by (first | lia | omega)) (by exact F7) (by exact N7) e4 e3 hps hnm hout hk (by rw [m7o _ (by decide)]; exact mr) mo hrow fun h8 tk8 F8 N8 => ?_
  clear F7 N7
  show wpAny (model PG w) A (execs (lBody.drop 13) (lEnv L fa)) Q E { s with heap := h8, toks := tk8 }
  have N8' : News g L h8 ((cl, listOf ((List.range 8).map fun i => Value.int (f i) (tf i)).toArray kc) :: (D, listOf out.toArray ec) :: (rl, listOf (strValues rs).toArray kr) :: (wl, listOf (strValues ws).toArray kw) :: (L + 1, o1) :: (L + 4, o4) :: (L + 3, o3) :: (pl, listOf (pls.map fun p => Value.ref p.1).toArray kp) :: (nl, listOf (strValues nmt).toArray kn) :: (L + 2, c2') :: (120, tabObj ps) :: (156, tabObj tb') :: (l5 ++ pls)) := pickP N8 [8, 0, 1, 2, 3, 4, 5, 6, 7, 9, 10, 11] (dropP N8 12)
  have mw7 : m7 "words" = some (.ref wl) := by rw [m7o _ (by decide), m6o _ (by decide)]; exact mw
  have mr7 : m7 "row" = some (.ref rl) := by rw [m7o _ (by decide)]; exact mr
  have mc7 : m7 "cells" = some (.ref cl) := by rw [m7o _ (by decide), m6o _ (by decide), m4o _ (by decide) (by decide)]; exact mc2
  refine law_s1315 G hroom hh (by exact F8) (by exact N8') (hf 0) mc7 fun h9 tk9 m9 sl us ks tt hus ms mt m9o hsl F9 N9 => ?_
  clear F8 N8 N8'
  have N9' : News g L h9 ((sl, listOf us.toArray ks) :: (L + 4, o4) :: (pl, listOf (pls.map fun p => Value.ref p.1).toArray kp) :: (cl, listOf ((List.range 8).map fun i => Value.int (f i) (tf i)).toArray kc) :: (D, listOf out.toArray ec) :: (rl, listOf (strValues rs).toArray kr) :: (wl, listOf (strValues ws).toArray kw) :: (L + 1, o1) :: (L + 3, o3) :: (nl, listOf (strValues nmt).toArray kn) :: (L + 2, c2') :: (120, tabObj ps) :: (156, tabObj tb') :: (l5 ++ pls)) := pickP N9 [0, 6, 8, 1, 2, 3, 4, 5, 7, 9, 10, 11, 12] (dropP N9 13)
  refine law_s16 G hroom hh (b := bossOf f) (pls := pls) (by exact F9) (by exact N9') e4 hps (fun p hp => List.mem_of_mem_drop (i := 10) (List.mem_append_right _ hp)) hus ms fun h10 tk10 m10 tl M hM hM2 mle m10o F10 N10 => ?_
  clear F9 N9 N9'
  have N10' : News g L h10 ((sl, listOf us.toArray ks) :: (rl, listOf (strValues rs).toArray kr) :: (wl, listOf (strValues ws).toArray kw) :: (L + 1, o1) :: (l5 ++ ((L + 4, o4) :: (pl, listOf (pls.map fun p => Value.ref p.1).toArray kp) :: (cl, listOf ((List.range 8).map fun i => Value.int (f i) (tf i)).toArray kc) :: (D, listOf out.toArray ec) :: (L + 3, o3) :: (nl, listOf (strValues nmt).toArray kn) :: (L + 2, c2') :: (120, tabObj ps) :: (156, tabObj tb') :: pls))) := pickP N10 [0, 5, 6, 7] (appP (leftP (dropP N10 13)) (pickP N10 [1, 2, 3, 4, 8, 9, 10, 11, 12] (rightP (dropP N10 13))))
  have hoff2 : ∀ p ∈ (sl, listOf us.toArray ks) :: (rl, listOf (strValues rs).toArray kr) :: (wl, listOf (strValues ws).toArray kw) :: (L + 1, o1) :: (L + 4, o4) :: (pl, listOf (pls.map fun p => Value.ref p.1).toArray kp) :: (cl, listOf ((List.range 8).map fun i => Value.int (f i) (tf i)).toArray kc) :: (D, listOf out.toArray ec) :: (L + 3, o3) :: (nl, listOf (strValues nmt).toArray kn) :: (L + 2, c2') :: (120, tabObj ps) :: (156, tabObj tb') :: pls, p.1 ∉ l5.map (·.1) := by
    rw [hLA5]
    have hplA : ∀ p ∈ pls, p.1 ∉ LA := fun p hp => H7.pl p.1 (by rw [← hPA]; exact List.mem_map_of_mem hp)
    refine consP (P := fun p => p.1 ∉ LA) (fun hq => ?_) (consP (H7.al rl (.tail _ (.head _))) (consP (H7.al wl (List.mem_of_getElem? (i := 2) rfl)) (consP (H7.al (L + 1) (List.mem_of_getElem? (i := 3) rfl)) (consP (H7.al (L + 4) (List.mem_of_getElem? (i := 4) rfl)) (consP (H7.al pl (List.mem_of_getElem? (i := 6) rfl)) (consP (H7.al cl (List.mem_of_getElem? (i := 8) rfl)) (consP (H7.al D (.head _)) (consP (H7.al (L + 3) (List.mem_of_getElem? (i := 5) rfl)) (consP (H7.al nl (List.mem_of_getElem? (i := 7) rfl)) (consP (H7.al (L + 2) (List.mem_of_getElem? (i := 9) rfl)) (consP (H7.al 120 (List.mem_of_getElem? (i := 10) rfl)) (consP (H7.al 156 (List.mem_of_getElem? (i := 11) rfl)) hplA))))))))))))
    rw [← hLA5] at hq
    obtain ⟨p, hp, e⟩ := List.mem_map.mp hq
    have h1 : @LT.lt Nat _ p.1 sl := leftP (dropP hsl 12) p hp
    exact Nat.ne_of_lt h1 e
  have t3 : (f 0 / 16 % 3).toNat < 3 := by
    obtain ⟨d, hd⟩ : ∃ d, f 0 / 16 = d := ⟨_, rfl⟩
    rw [hd]; (first | lia | omega)
  have rs8 : rs.length = 8 := by have := congrArg List.length hrow; rw [List.length_map, List.length_map, hk.length_eq] at this; rw [this]; rfl
  have hsub : ∀ p ∈ rs, p.1 ∈ ws.map (·.1) := fun p hp => by
    have h1 : p.1 ∈ rs.map (·.1) := List.mem_map_of_mem hp
    rw [hrow] at h1
    obtain ⟨x, hx, e⟩ := List.mem_map.mp h1
    rw [hws, ← e]
    exact List.mem_map_of_mem (hjp.mem_iff.mpr (hk.mem_iff.mp hx))
  have hz : ∀ p ∈ ws, p.1.cps.size ≤ 100 ∧ PyData.strOk p.1 = true := fun p hp => by
    have h1 : p.1 ∈ ws.map (·.1) := List.mem_map_of_mem hp
    rw [hws] at h1
    obtain ⟨x, hx, e⟩ := List.mem_map.mp h1
    rw [← e]
    exact Pl.wd_sz (Pl.dep (bossOf f) x) (by have := Pl.dep_le (bossOf f) x; (first | lia | omega)) x (List.mem_range.mp (hjp.mem_iff.mp hx))
  have tf3 := Pl.tail_facts (f 0) _ t3
  refine law_s17 G hroom hh (by (first | lia | omega)) (by exact F10) (by exact N10') ho1 hIL5 hoff2 hus (by rw [m10o _ (by decide)]; exact ms) (by rw [m10o _ (by decide), m9o _ (by decide) (by decide) (by decide)]; exact mw7) (by rw [m10o _ (by decide), m9o _ (by decide) (by decide) (by decide)]; exact mr7) (by rw [m10o _ (by decide)]; exact mt) (by (first | lia | omega)) (by (first | lia | omega)) hsub hz tf3.1 fun h11 tk11 gens11 m11 q k11 t1 t2 j wa heq mto m11o hAB F11 N11 => ?_
  clear F10 N10 N10'
  have hfin := Pl.hours_ok (boss_le f) hjp hjs hk hks (f 0) hM hM2 t3 (j := j) (wa := wa) (by rw [← hws, ← hrow]; exact heq)
  have tdf := Pl.told_facts (f 0)
  have N11' : News g L h11 ((sl, listOf us.toArray ks) :: (q, listOf #[.int (j : Nat) t1, .int (wa.length : Nat) t2] k11) :: (120, tabObj ps) :: [(156, tabObj tb')]) := pickP N11 [1, 0, 12, 13] nilP
  refine law_s18 G hroom hh (by (first | lia | omega)) hfr (by exact F11) (by exact N11') hus (by rw [m11o _ (by decide), m10o _ (by decide)]; exact ms) tdf.1 tdf.2 fun h12 tk12 gens12 hAB2 F12 N12 => ?_
  clear F11 N11 N11'
  have N12' : News g L h12 ((q, listOf #[.int (j : Nat) t1, .int (wa.length : Nat) t2] k11) :: (120, tabObj ps) :: [(156, tabObj tb')]) := fun p hp => N12 p (.tail _ hp)
  refine law_s1920 G hh hu (by exact F12) (by exact N12') (t := f 0 / 16 % 3) (ls := leastF (depths (bossOf f)) (stepsOf (f 0) 3) M) (by rw [m11o _ (by decide), m10o _ (by decide)]; exact mt) (by rw [m11o _ (by decide)]; exact mle) mto ?_ fun h13 tk13 F13 N13 => ?_
  · have e : (f 0 / 16 % 3).toNat = 0 ↔ f 0 / 16 % 3 = 0 := by
      obtain ⟨d, hd⟩ : ∃ d, f 0 / 16 = d := ⟨_, rfl⟩
      rw [hd]
      exact ⟨fun h => by (first | lia | omega), fun h => by (first | lia | omega)⟩
    by_cases c : f 0 / 16 % 3 = 0 ∨ leastF (depths (bossOf f)) (stepsOf (f 0) 3) M < 5
    · rw [if_pos (c.imp_left e.mpr)] at hfin
      rw [if_pos c]; exact hfin
    · rw [if_neg (fun q => c (q.imp_left e.mp))] at hfin
      rw [if_neg c]; exact hfin
  · exact hQ h13 tk13 gens12 m11 ps tb' (fun a => hAB2 (hAB a)) F13 (N13 _ (.head _)).1 (N13 _ (.tail _ (.head _))).1
end
end
end
end
end Mine
open PySem PySem.W PySem.Calls PyProof.Rows
set_option maxRecDepth 100000
namespace Mine
theorem post_true (args : List WData) : (PySem.Challenge.rw_sl0005_01.row.toRowW.claim).post args (.bool true) args = true := postW_of (by wrow_shape) (w_eq_bool (w_res rfl) w_lit) rfl
end Mine
set_option maxHeartbeats 8000000 in
theorem PySem.Challenge.cw_sl0005_01_holds : PySem.Challenge.rw_sl0005_01.Holds := by
  exact Mine.hd (by
    k_fill
    intro w s₀ s₁ mg mb G Y fa o pm cd doc dV kV ho hd hcd hD hmg hg args vals as hpre hlay hrd hwl hlo
    have KX := km_in_of Y
    km_tabs Y
    have X := (Ground.X G).1
    have V := (Ground.X G).2
    refine Ground.open G ?_
    intro T B D TE TW
    try (refine guard_noD D (by decide +kernel) ?_; clear D)
    km_lay T hmg ho hd cd
    clear hmg
    wrow_args hpre hlay hrd hwl hlo
    first | refine callC_kw (enter_call ?_) | refine enter_call ?_
    w_top on
    refine Mine.my_post hT9 (fun _ => rfl) (Mine.post_true _) ?_
    w_call any ho hd hcd hD T F
    clear hd
    kn_ghosts F T
    k_drop
    skip
    (with_reducible rename Frag.In _ _ => XX)
    (with_reducible rename Top _ _ _ _ _ _ => TT)
    (with_reducible rename Fr _ _ _ _ => FF)
    (with_reducible rename News _ _ _ _ => NN)
    (with_reducible rename IntsAre _ _ => II)
    (with_reducible rename _ ∧ _ => l0)
    have GG : Mine.Gnd w mg mb (ghostOf s₁.heap [(124, 120), (158, 156)]) := ⟨XX, ⟨(_, _, _), TT⟩⟩
    refine Mine.law_all (L := s₁.heap.objs.size) (fa := fa) GG (by show 1 + claimMargin + 1 < 500; decide) rfl (by show (4 + 3 : Nat) < 7000; decide) (by assumption) (by assumption) rfl (by exact FF) (by exact NN) (by assumption) (by assumption) (by assumption) (by assumption) ?_ lifted II (by (first | lia | omega)) l0.1 l0.2 fun h' tk gens' m' p1 p2 hA F'' e1 e2 => ?_
    · with_unfolding_all rfl
    · exact ⟨rfl, F''.keep, rfl, hA (.of_eq hg), ⟨p1, e1⟩, ⟨p2, e2⟩, trivial⟩)
