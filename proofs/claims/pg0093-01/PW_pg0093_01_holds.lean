import PyProof.Rows.All
import Wide.All
import OpenK.AllK
import Wide.FinOn
import PySem.Builtin.Sre.Common
import PySem.Challenge.RW_pg0093_01
set_option Elab.async false
set_option linter.all false
set_option compiler.extract_closed false
-- T1
section
open PySem PySem.W PyProof.Rows
set_option maxRecDepth 100000
set_option maxHeartbeats 8000000
namespace Mine
open_top hd for PySem.Challenge.rw_pg0093_01

end Mine
end
-- R1
section
open PySem PySem.Sre
namespace Mine
/-! the two patterns' words, and what a search with them finds -/
noncomputable def C1 : Array Nat := #[14, 9, 4, 1, 2, 16, 10, 16, 13, 0, 7, 7, 16, 13, 16, 10, 15, 18, 5, 16, 10, 15, 13, 11, 16, 13, 5, 5, 0, 16, 10, 1, 15, 2, 0, 1]
noncomputable def C2 : Array Nat := #[14, 4, 0, 1, 1, 6, 1, 16, 46, 1]
set_option maxRecDepth 10000
noncomputable def S1 (text : Array Nat) (lim s pc pos handed : Nat) (om : Bool) (frames : List Sre.Frame) (weight : Nat) (ans : Option Bool) (seen : Seen) (ls : Nat) : M :=
  { code := C1, text, lim, start := s, lastStart := ls, pc, pos, handed, outermost := om, marks := #[], frames, weight, answer := ans, seen }

noncomputable def isNl (c : Nat) : Bool := c == 10 || c == 13

theorem inSet1 (c : Nat) (seen : Seen) : ∃ seen', inSet C1 c 36 5 true seen = .ok (isNl c, seen') := by
  by_cases h1 : c = 10
  · subst h1; exact ⟨_, by simp [inSet, C1, ops, isNl]; rfl⟩
  · by_cases h2 : c = 13
    · subst h2; exact ⟨_, by simp [inSet, C1, ops, isNl]; rfl⟩
    · exact ⟨_, by simp [inSet, C1, ops, isNl, h1, h2]; rfl⟩

theorem admitted1 (m : M) (hc : m.code = C1) : ∀ fuel s seen, m.lim + 1 ≤ fuel + s →
    (∃ i seen', s ≤ i ∧ i < m.lim ∧ isNl (m.text.getD i 0) = true ∧ (∀ j, s ≤ j → j < i → isNl (m.text.getD j 0) = false) ∧ M.admitted m fuel s seen = .ok (some i, seen')) ∨
    (∃ seen', (∀ j, s ≤ j → j < m.lim → isNl (m.text.getD j 0) = false) ∧ M.admitted m fuel s seen = .ok (none, seen')) := by
  intro fuel
  induction fuel with
  | zero => intro s seen h; exact .inr ⟨seen, fun j h1 h2 => absurd h2 (by omega), rfl⟩
  | succ n ih =>
    intro s seen h
    by_cases hs : s ≥ m.lim
    · exact .inr ⟨seen, fun j h1 h2 => absurd h2 (by omega), by unfold M.admitted; rw [if_pos hs]⟩
    · obtain ⟨seen', e⟩ := inSet1 (m.text.getD s 0) seen
      have hsz : m.code.size = 36 := by rw [hc]; rfl
      cases q : isNl (m.text.getD s 0) with
      | true =>
        refine .inl ⟨s, seen', Nat.le_refl _, by omega, q, fun j h1 h2 => absurd h2 (by omega), ?_⟩
        unfold M.admitted
        rw [if_neg hs, hsz, hc, e, q]
      | false =>
        have step : M.admitted m (n + 1) s seen = M.admitted m n (s + 1) seen' := by
          conv => lhs; unfold M.admitted
          rw [if_neg hs, hsz, hc, e, q]
        rcases ih (s + 1) seen' (by omega) with ⟨i, s2, a, b, c, d, f⟩ | ⟨s2, d, f⟩
        · refine .inl ⟨i, s2, by omega, b, c, fun j h1 h2 => ?_, step.trans f⟩
          by_cases hj : j = s
          · rw [hj]; exact q
          · exact d j (by omega) h2
        · refine .inr ⟨s2, fun j h1 h2 => ?_, step.trans f⟩
          by_cases hj : j = s
          · rw [hj]; exact q
          · exact d j (by omega) h2

/-- where the match at i ends -/
noncomputable def endOf1 (text : Array Nat) (lim i : Nat) : Nat := if text.getD i 0 = 13 ∧ i + 1 < lim ∧ text.getD (i + 1) 0 = 10 then i + 2 else i + 1


theorem runFor_step {m m' : M} {n : Nat} (h : m.outcome = none) (e : m.step = m') : m.runFor (n + 1) = m'.runFor n := by
  rw [M.runFor, h, e]; rfl

/-- the frame that waits at an alternative -/
noncomputable def FB (s alt : Nat) (om : Bool) : Sre.Frame := { wait := .nextBranch, pc := alt, pos := s, outermost := om, kept := { lastmark := -1, lastindex := -1, whole := false, marks := #[] } }
noncomputable def F0 (s : Nat) (om : Bool) : Sre.Frame := { wait := .nextStart, pc := 10, pos := s, outermost := om }
noncomputable def FL (s : Nat) (om : Bool) : Sre.Frame := { wait := .lookNot, pc := 26, pos := s, outermost := om, kept := { lastmark := -1, lastindex := -1, whole := false, marks := #[] } }

section
variable {text : Array Nat} {lim s hd ls : Nat} {om : Bool} {seen : Seen}
theorem st_branch : (S1 text lim s 10 s hd om [F0 s om] 1 none seen ls).step = S1 text lim s 12 s s om [FB s 11 om, F0 s om] 2 none (seen.add 7) ls := by
  simp [S1, FB, F0, M.step, M.exec, M.word, C1, ops, M.alternative, M.attempt, M.frame, M.keep]
theorem st_lit {pc p c w : Nat} {fs : List Sre.Frame} (hpc : (pc, c) ∈ [(12, 13), (14, 10), (19, 10), (24, 13), (29, 10)]) (hp : p < lim) (hc : text.getD p 0 = c) :
    (S1 text lim s pc p hd om fs w none seen ls).step = S1 text lim s (pc + 2) (p + 1) hd om fs w none (seen.add 16) ls := by
  have h4 : ¬ lim ≤ p := by omega
  simp only [List.mem_cons, Prod.mk.injEq, List.not_mem_nil, or_false] at hpc
  rcases hpc with ⟨rfl, rfl⟩ | ⟨rfl, rfl⟩ | ⟨rfl, rfl⟩ | ⟨rfl, rfl⟩ | ⟨rfl, rfl⟩ <;> simp [S1, M.step, M.exec, M.word, C1, ops, accepts, itemWidth, h4, hc]
theorem st_litNo {pc p c w : Nat} {fs : List Sre.Frame} (hpc : (pc, c) ∈ [(12, 13), (14, 10), (19, 10), (24, 13), (29, 10)]) (hc : p < lim → text.getD p 0 ≠ c) :
    (S1 text lim s pc p hd om fs w none seen ls).step = S1 text lim s pc p hd om fs w (some false) (seen.add 16) ls := by
  simp only [List.mem_cons, Prod.mk.injEq, List.not_mem_nil, or_false] at hpc
  by_cases h4 : lim ≤ p
  · rcases hpc with ⟨rfl, rfl⟩ | ⟨rfl, rfl⟩ | ⟨rfl, rfl⟩ | ⟨rfl, rfl⟩ | ⟨rfl, rfl⟩ <;> simp [S1, M.step, M.exec, M.word, C1, ops, M.say, h4]
  · have hc := hc (by omega)
    have hb : (text[p]?.getD 0 == c) = false := by simpa using hc
    rcases hpc with ⟨rfl, rfl⟩ | ⟨rfl, rfl⟩ | ⟨rfl, rfl⟩ | ⟨rfl, rfl⟩ | ⟨rfl, rfl⟩ <;> simp [S1, M.step, M.exec, M.word, C1, ops, accepts, itemWidth, M.say, h4, hb]
theorem st_jump {pc p w : Nat} {fs : List Sre.Frame} (hpc : pc ∈ [16, 21, 32]) :
    (S1 text lim s pc p hd om fs w none seen ls).step = S1 text lim s 35 p hd om fs w none (seen.add 15) ls := by
  simp only [List.mem_cons, List.not_mem_nil, or_false] at hpc
  rcases hpc with rfl | rfl | rfl <;> simp [S1, M.step, M.exec, M.word, C1, ops]
theorem st_ok {p w : Nat} {fs : List Sre.Frame} :
    (S1 text lim s 35 p hd om fs w none seen ls).step = S1 text lim s 35 p p om fs w (some true) (seen.add 1) ls := by
  simp [S1, M.step, M.exec, M.word, C1, ops, M.say]
theorem st_next' {pc p q pc' : Nat} (h : (pc, pc') ∈ [(11, 18), (18, 23)]) {om' : Bool} :
    (S1 text lim s p q hd om' [FB s pc om, F0 s om] 2 (some false) seen ls).step = S1 text lim s (pc' + 1) s s om [FB s pc' om, F0 s om] 2 none seen ls := by
  simp only [List.mem_cons, Prod.mk.injEq, List.not_mem_nil, or_false] at h
  rcases h with ⟨rfl, rfl⟩ | ⟨rfl, rfl⟩ <;> simp [S1, FB, F0, M.step, M.resume, M.putBack, C1, M.alternative, M.attempt, M.frame]
theorem st_look {fs : List Sre.Frame} {p : Nat} :
    (S1 text lim s 26 p hd om fs 2 none seen ls).step = S1 text lim s 29 p p false (FL p om :: fs) 3 none (seen.add 5) ls := by
  simp [S1, FL, M.step, M.exec, M.word, C1, ops, M.attempt, M.frame, M.keep]
theorem st_lookNo {fs : List Sre.Frame} {p q pc : Nat} {om' : Bool} :
    (S1 text lim s pc q hd om' (FL p om :: fs) 3 (some false) seen ls).step = S1 text lim s 32 p hd om fs 2 none seen ls := by
  simp [S1, FL, M.step, M.resume, M.putBack, M.word, C1]
theorem st_up {fs : List Sre.Frame} {p q alt : Nat} {om' : Bool} :
    (S1 text lim s p q hd om' (FB s alt om :: fs) 2 (some true) seen ls).step = S1 text lim s alt s hd om fs 1 (some true) seen ls := by
  simp [S1, FB, M.step, M.resume, M.say]
theorem st_up0 {p q : Nat} {om' : Bool} :
    (S1 text lim s p q hd om' [F0 s om] 1 (some true) seen ls).step = S1 text lim s 10 s hd om [] 0 (some true) seen ls := by
  simp [S1, F0, M.step, M.resume, M.say]
theorem st_fin {p q : Nat} {om' : Bool} :
    (S1 text lim s p q hd om' [] 0 (some true) seen ls).step = { S1 text lim s p q hd om' [] 0 (some true) seen ls with outcome := some .matched } := by
  simp [S1, M.step]
theorem st_end {p q r alt w : Nat} {om' : Bool} (hr : r = s + 1 ∨ r = s + 2) (hw : w = 2) :
    ∃ m, (S1 text lim s 35 r hd om' [FB s alt om, F0 s om] w none seen ls).runFor 4 = m ∧ m.outcome = some .matched ∧ m.start = s ∧ m.handed = r := by
  subst hw
  refine ⟨_, rfl, ?_⟩
  rw [runFor_step rfl st_ok, runFor_step rfl st_up, runFor_step rfl st_up0, runFor_step rfl st_fin]
  exact ⟨rfl, rfl, rfl⟩
end

theorem tryAt1 (text : Array Nat) (lim s ls : Nat) (hd : Nat) (om : Bool) (seen : Seen) (hl : s < lim) (hn : isNl (text.getD s 0) = true) :
    ∃ k m, k ≤ 24 ∧ (S1 text lim s 10 s hd om [F0 s om] 1 none seen ls).runFor k = m ∧ m.outcome = some .matched ∧ m.start = s ∧ m.handed = endOf1 text lim s := by
  by_cases h1 : text.getD s 0 = 10
  · have e : endOf1 text lim s = s + 1 := if_neg (by omega)
    obtain ⟨m, h⟩ := st_end (text := text) (lim := lim) (s := s) (hd := s) (ls := ls) (om := om) (om' := om) (alt := 18) (p := 0) (q := 0) (r := s + 1) (seen := ((((seen.add 7).add 16).add 16).add 15)) (.inl rfl) rfl
    refine ⟨9, m, by omega, ?_, by rw [e]; exact h.2⟩
    rw [runFor_step rfl st_branch, runFor_step rfl (st_litNo (pc := 12) (c := 13) (by simp) (fun _ => by omega)), runFor_step rfl (st_next' (pc := 11) (pc' := 18) (by simp)),
      runFor_step rfl (st_lit (pc := 19) (c := 10) (by simp) hl h1), runFor_step rfl (st_jump (pc := 21) (by simp))]
    exact h.1
  · have h2 : text.getD s 0 = 13 := by
      unfold isNl at hn
      simp only [Bool.or_eq_true, beq_iff_eq] at hn
      omega
    by_cases h6 : s + 1 < lim ∧ text.getD (s + 1) 0 = 10
    · have e : endOf1 text lim s = s + 2 := if_pos ⟨h2, h6⟩
      obtain ⟨m, h⟩ := st_end (text := text) (lim := lim) (s := s) (hd := s) (ls := ls) (om := om) (om' := om) (alt := 11) (p := 0) (q := 0) (r := s + 2) (seen := ((((seen.add 7).add 16).add 16).add 15)) (.inr rfl) rfl
      refine ⟨8, m, by omega, ?_, by rw [e]; exact h.2⟩
      rw [runFor_step rfl st_branch, runFor_step rfl (st_lit (pc := 12) (c := 13) (by simp) hl h2), runFor_step rfl (st_lit (pc := 14) (c := 10) (by simp) h6.1 h6.2), runFor_step rfl (st_jump (pc := 16) (by simp))]
      exact h.1
    · have e : endOf1 text lim s = s + 1 := if_neg fun q => h6 q.2
      have h7 : s + 1 < lim → text.getD (s + 1) 0 ≠ 10 := fun a b => h6 ⟨a, b⟩
      obtain ⟨m, h⟩ := st_end (text := text) (lim := lim) (s := s) (hd := s + 1) (ls := ls) (om := om) (om' := om) (alt := 23) (p := 0) (q := 0) (r := s + 1) (seen := (((((((seen.add 7).add 16).add 16).add 16).add 16).add 5).add 16).add 15) (.inl rfl) rfl
      refine ⟨15, m, by omega, ?_, by rw [e]; exact h.2⟩
      rw [runFor_step rfl st_branch, runFor_step rfl (st_lit (pc := 12) (c := 13) (by simp) hl h2), runFor_step rfl (st_litNo (pc := 14) (c := 10) (by simp) h7), runFor_step rfl (st_next' (pc := 11) (pc' := 18) (by simp)),
        runFor_step rfl (st_litNo (pc := 19) (c := 10) (by simp) (fun _ => h1)), runFor_step rfl (st_next' (pc := 18) (pc' := 23) (by simp)), runFor_step rfl (st_lit (pc := 24) (c := 13) (by simp) hl h2), runFor_step rfl st_look,
        runFor_step rfl (st_litNo (pc := 29) (c := 10) (by simp) h7), runFor_step rfl st_lookNo, runFor_step rfl (st_jump (pc := 32) (by simp))]
      exact h.1

theorem find1 (text : Array Nat) (start lim : Nat) (must : Bool) :
    (∃ i k m, start ≤ i ∧ i < lim ∧ isNl (text.getD i 0) = true ∧ (∀ j, start ≤ j → j < i → isNl (text.getD j 0) = false) ∧
      k ≤ 24 ∧ (forSearch C1 text 0 start lim must).runFor k = m ∧ m.outcome = some .matched ∧ m.start = i ∧ m.handed = endOf1 text lim i) ∨
    ((∀ j, start ≤ j → j < lim → isNl (text.getD j 0) = false) ∧ ∃ k m, k ≤ 24 ∧ (forSearch C1 text 0 start lim must).runFor k = m ∧ m.outcome = some .failed) := by
  by_cases hs : start > lim ∨ lim - start < 1
  · refine .inr ⟨fun j h1 h2 => absurd h2 (by omega), 1, _, by omega, rfl, ?_⟩
    have : forSearch C1 text 0 start lim must = (S1 text lim start 10 start start true [] 0 (some false) (({} : Seen).add 14) 0 |> fun m => { m with mustAdvance := must }) := by
      unfold forSearch
      have h : (decide (start > lim) || decide (lim - start < (header C1).1)) = true := by
        have : (header C1).1 = 1 := rfl
        rw [this]; simpa using hs
      simp only [h, if_true]
      rfl
    rw [this]
    simp [M.runFor, M.step, S1]
  · have h : (decide (start > lim) || decide (lim - start < (header C1).1)) = false := by
      have : (header C1).1 = 1 := rfl
      rw [this]; simpa using hs
    have base : ∃ m0 : M, m0.code = C1 ∧ m0.text = text ∧ m0.lim = lim ∧ forSearch C1 text 0 start lim must = m0.attemptFrom start true ∧ m0 = (S1 text lim start 10 start start true [] 0 none (({} : Seen).add 14) lim |> fun m => { m with mustAdvance := must }) := by
      refine ⟨_, rfl, rfl, rfl, ?_, rfl⟩
      unfold forSearch
      simp only [h]
      rfl
    obtain ⟨m0, hc, ht, hl, hf, hm⟩ := base
    have fs : m0.hasFirstSet = true := by rw [hm]; rfl
    rcases admitted1 m0 hc (lim + 1 - start) start m0.seen (by rw [hl]; omega) with ⟨i, s2, a, b, c, d, f⟩ | ⟨s2, d, f⟩
    · rw [hl] at b
      rw [ht] at c d
      obtain ⟨k, m, hk, hr, h1, h2, h3⟩ := tryAt1 text lim i lim i true s2 b c
      refine .inl ⟨i, k, m, a, b, c, d, hk, ?_, h1, h2, h3⟩
      rw [hf, ← hr]
      congr 1
      unfold M.attemptFrom
      rw [fs, hl, f, hm]
      rfl
    · rw [ht, hl] at d
      refine .inr ⟨d, 1, _, by omega, rfl, ?_⟩
      have : m0.attemptFrom start true = { m0 with seen := s2, answer := some false } := by
        unfold M.attemptFrom
        rw [fs, hl, f]
        rfl
      rw [hf, this, hm]
      simp [M.runFor, M.step, S1]
end Mine
end
-- R1b
section
open PySem PySem.Sre
namespace Mine
set_option maxRecDepth 10000
noncomputable def S2 (text : Array Nat) (lim s pc pos handed : Nat) (om : Bool) (frames : List Sre.Frame) (weight : Nat) (ans : Option Bool) (seen : Seen) (must : Bool) : M :=
  { code := C2, text, lim, start := s, lastStart := lim, mustAdvance := must, pc, pos, handed, outermost := om, marks := #[], frames, weight, answer := ans, seen }
noncomputable def G0 (s : Nat) (om : Bool) : Sre.Frame := { wait := .nextStart, pc := 5, pos := s, outermost := om }
/-- a dot at a line's start -/
noncomputable def dotAt (text : Array Nat) (i : Nat) : Bool := (i == 0 || text.getD (i - 1) 0 == 10) && text.getD i 0 == 46
section
variable {text : Array Nat} {lim s hd : Nat} {om : Bool} {seen : Seen} {must : Bool}
theorem s2_at (h : (s == 0 || text.getD (s - 1) 0 == 10) = true) :
    (S2 text lim s 5 s s om [G0 s om] 1 none seen must).step = S2 text lim s 7 s s om [G0 s om] 1 none ((seen.add 6).add 44) must := by
  have h' : (s == 0 || text[s - 1]?.getD 0 == 10) = true := by simpa using h
  simp [S2, M.step, M.exec, M.word, C2, ops, M.isAt]
  simp only [Bool.or_eq_true, beq_iff_eq] at h'
  exact fun a b => absurd h' (by omega)
theorem s2_atNo (h : (s == 0 || text.getD (s - 1) 0 == 10) = false) :
    (S2 text lim s 5 s s om [G0 s om] 1 none seen must).step = S2 text lim s 5 s s om [G0 s om] 1 (some false) ((seen.add 6).add 44) must := by
  have h' : (s == 0 || text[s - 1]?.getD 0 == 10) = false := by simpa using h
  simp [S2, M.step, M.exec, M.word, C2, ops, M.isAt, M.say]
  simp only [Bool.or_eq_false_iff, beq_eq_false_iff_ne, ne_eq] at h'
  exact h'
theorem s2_lit (hl : s < lim) (h : text.getD s 0 = 46) :
    (S2 text lim s 7 s s om [G0 s om] 1 none seen must).step = S2 text lim s 9 (s + 1) s om [G0 s om] 1 none (seen.add 16) must := by
  have h4 : ¬ lim ≤ s := by omega
  simp [S2, M.step, M.exec, M.word, C2, ops, accepts, itemWidth, h4, h]
theorem s2_litNo (h : s < lim → text.getD s 0 ≠ 46) :
    (S2 text lim s 7 s s om [G0 s om] 1 none seen must).step = S2 text lim s 7 s s om [G0 s om] 1 (some false) (seen.add 16) must := by
  by_cases h4 : lim ≤ s
  · simp [S2, M.step, M.exec, M.word, C2, ops, M.say, h4]
  · have hb : (text[s]?.getD 0 == 46) = false := by simpa using h (by omega)
    simp [S2, M.step, M.exec, M.word, C2, ops, accepts, M.say, h4, hb]
theorem s2_ok : (S2 text lim s 9 (s + 1) hd om [G0 s om] 1 none seen must).step = S2 text lim s 9 (s + 1) (s + 1) om [G0 s om] 1 (some true) (seen.add 1) must := by
  simp [S2, M.step, M.exec, M.word, C2, ops, M.say]
theorem s2_up {p q : Nat} {om' : Bool} : (S2 text lim s p q hd om' [G0 s om] 1 (some true) seen must).step = S2 text lim s 5 s hd om [] 0 (some true) seen must := by
  simp [S2, G0, M.step, M.resume, M.say]
theorem s2_fin {p q : Nat} {om' b : Bool} :
    (S2 text lim s p q hd om' [] 0 (some b) seen must).step = { S2 text lim s p q hd om' [] 0 (some b) seen must with outcome := some (if b then .matched else .failed) } := by
  simp [S2, M.step]
theorem s2_next {p q : Nat} {om' : Bool} (h : s < lim) :
    (S2 text lim s p q hd om' [G0 s om] 1 (some false) seen must).step = S2 text lim (s + 1) 5 (s + 1) (s + 1) false [G0 (s + 1) false] 1 none seen false := by
  simp [S2, G0, C2, M.step, M.resume, M.attemptFrom, M.hasFirstSet, ops, M.attemptAt, M.attempt, h]
theorem s2_last {p q : Nat} {om' : Bool} (h : ¬ s < lim) :
    (S2 text lim s p q hd om' [G0 s om] 1 (some false) seen must).step = S2 text lim s 5 s hd om [] 0 (some false) seen must := by
  simp [S2, G0, M.step, M.resume, M.say, h]

theorem hit2 (hl : s < lim) (h : dotAt text s = true) :
    ∃ m, (S2 text lim s 5 s s om [G0 s om] 1 none seen must).runFor 5 = m ∧ m.outcome = some .matched ∧ m.start = s ∧ m.handed = s + 1 := by
  unfold dotAt at h
  rw [Bool.and_eq_true, beq_iff_eq] at h
  refine ⟨_, rfl, ?_⟩
  rw [runFor_step rfl (s2_at h.1), runFor_step rfl (s2_lit hl h.2), runFor_step rfl s2_ok, runFor_step rfl s2_up, runFor_step rfl s2_fin]
  exact ⟨rfl, rfl, rfl⟩
theorem miss2 (h : s < lim → dotAt text s = false) :
    ∃ k p q om' seen' , k ≤ 2 ∧ ∀ n, (S2 text lim s 5 s s om [G0 s om] 1 none seen must).runFor (k + n) = (S2 text lim s p q s om' [G0 s om] 1 (some false) seen' must).runFor n := by
  cases ha : (s == 0 || text.getD (s - 1) 0 == 10) with
  | false =>
    refine ⟨1, 5, s, om, (seen.add 6).add 44, by omega, fun n => ?_⟩
    rw [Nat.add_comm, runFor_step rfl (s2_atNo ha)]
  | true =>
    refine ⟨2, 7, s, om, ((seen.add 6).add 44).add 16, by omega, fun n => ?_⟩
    have e : 2 + n = n + 1 + 1 := by omega
    rw [e, runFor_step rfl (s2_at ha), runFor_step rfl (s2_litNo fun q => ?_)]
    have := h q
    unfold dotAt at this
    rw [ha, Bool.true_and, beq_eq_false_iff_ne] at this
    exact this
end

theorem try2 (text : Array Nat) (lim : Nat) : ∀ d s om seen must, lim - s = d → s ≤ lim →
    (∃ i k m, s ≤ i ∧ i < lim ∧ dotAt text i = true ∧ (∀ j, s ≤ j → j < i → dotAt text j = false) ∧
      k ≤ 3 * d + 9 ∧ (S2 text lim s 5 s s om [G0 s om] 1 none seen must).runFor k = m ∧ m.outcome = some .matched ∧ m.start = i ∧ m.handed = i + 1) ∨
    ((∀ j, s ≤ j → j < lim → dotAt text j = false) ∧ ∃ k m, k ≤ 3 * d + 9 ∧ (S2 text lim s 5 s s om [G0 s om] 1 none seen must).runFor k = m ∧ m.outcome = some .failed) := by
  intro d
  induction d with
  | zero =>
    intro s om seen must hd hs
    have hn : ¬ s < lim := by omega
    obtain ⟨k, p, q, om', seen', hk, e⟩ := miss2 (text := text) (lim := lim) (s := s) (om := om) (seen := seen) (must := must) (fun h => absurd h hn)
    refine .inr ⟨fun j h1 h2 => absurd h2 (by omega), k + 2, _, by omega, rfl, ?_⟩
    rw [e 2, runFor_step rfl (s2_last hn), runFor_step rfl s2_fin]
    rfl
  | succ d ih =>
    intro s om seen must hd hs
    have hl : s < lim := by omega
    cases hdot : dotAt text s with
    | true =>
      obtain ⟨m, h⟩ := hit2 (text := text) (lim := lim) (s := s) (om := om) (seen := seen) (must := must) hl hdot
      exact .inl ⟨s, 5, m, Nat.le_refl _, hl, hdot, fun j h1 h2 => absurd h2 (by omega), by omega, h.1, h.2⟩
    | false =>
      obtain ⟨k, p, q, om', seen', hk, e⟩ := miss2 (text := text) (lim := lim) (s := s) (om := om) (seen := seen) (must := must) (fun _ => hdot)
      have e' : ∀ n, (S2 text lim s 5 s s om [G0 s om] 1 none seen must).runFor (k + (n + 1)) = (S2 text lim (s + 1) 5 (s + 1) (s + 1) false [G0 (s + 1) false] 1 none seen' false).runFor n := fun n => by
        rw [e (n + 1), runFor_step rfl (s2_next hl)]
      have none : ∀ j, s ≤ j → dotAt text j = true → s + 1 ≤ j := fun j h1 h2 => by
        by_cases q : j = s
        · rw [q, hdot] at h2; cases h2
        · omega
      rcases ih (s + 1) false seen' false (by omega) (by omega) with ⟨i, k', m, a, b, c, f, g, r, o⟩ | ⟨f, k', m, g, r, o⟩
      · refine .inl ⟨i, k + (k' + 1), m, by omega, b, c, fun j h1 h2 => ?_, by omega, (e' k').trans r, o⟩
        by_cases q : j = s
        · rw [q]; exact hdot
        · exact f j (by omega) h2
      · refine .inr ⟨fun j h1 h2 => ?_, k + (k' + 1), m, by omega, (e' k').trans r, o⟩
        by_cases q : j = s
        · rw [q]; exact hdot
        · exact f j (by omega) h2

theorem find2 (text : Array Nat) (start lim : Nat) (must : Bool) :
    (∃ i k m, start ≤ i ∧ i < lim ∧ dotAt text i = true ∧ (∀ j, start ≤ j → j < i → dotAt text j = false) ∧
      k ≤ 3 * lim + 9 ∧ (forSearch C2 text 0 start lim must).runFor k = m ∧ m.outcome = some .matched ∧ m.start = i ∧ m.handed = i + 1) ∨
    ((∀ j, start ≤ j → j < lim → dotAt text j = false) ∧ ∃ k m, k ≤ 3 * lim + 9 ∧ (forSearch C2 text 0 start lim must).runFor k = m ∧ m.outcome = some .failed) := by
  by_cases hs : start > lim ∨ lim - start < 1
  · have h : (decide (start > lim) || decide (lim - start < (header C2).1)) = true := by
      have : (header C2).1 = 1 := rfl
      rw [this]; simpa using hs
    refine .inr ⟨fun j h1 h2 => absurd h2 (by omega), 1, _, by omega, rfl, ?_⟩
    have : ∃ m0 : M, forSearch C2 text 0 start lim must = m0 ∧ m0.outcome = none ∧ m0.answer = some false ∧ m0.frames = [] := by
      refine ⟨_, rfl, ?_⟩
      unfold forSearch
      simp only [h, if_true]
      exact ⟨rfl, rfl, rfl⟩
    obtain ⟨m0, e, h1, h2, h3⟩ := this
    rw [e]
    simp [M.runFor, M.step, h1, h2, h3]
  · have h : (decide (start > lim) || decide (lim - start < (header C2).1)) = false := by
      have : (header C2).1 = 1 := rfl
      rw [this]; simpa using hs
    have e : forSearch C2 text 0 start lim must = S2 text lim start 5 start start true [G0 start true] 1 none (({} : Seen).add 14) must := by
      unfold forSearch
      simp only [h]
      rfl
    rw [e]
    rcases try2 text lim (lim - start) start true (({} : Seen).add 14) must rfl (by omega) with ⟨i, k, m, a, b, c, f, g, r⟩ | ⟨f, k, m, g, r⟩
    · exact .inl ⟨i, k, m, a, b, c, f, by omega, r⟩
    · exact .inr ⟨f, k, m, by omega, r⟩
end Mine
end
-- R1c
section
open PySem PySem.Sre
namespace Mine
/-- every line's end made \r\n (skip: a \r stands just before) -/
noncomputable def crlfF : Bool → List Nat → List Nat
  | _, [] => []
  | skip, c :: r => if c = 10 then (if skip then crlfF false r else 13 :: 10 :: crlfF false r) else if c = 13 then 13 :: 10 :: crlfF true r else c :: crlfF false r
/-- each dot at a line's start doubled (b: at a line's start) -/
noncomputable def dotsF : Bool → List Nat → List Nat
  | _, [] => []
  | b, c :: r => if b = true ∧ c = 46 then 46 :: 46 :: dotsF false r else c :: dotsF (c == 10) r
noncomputable def res1 (text : Array Nat) (p : Nat) : List Nat := crlfF false (text.toList.drop p)
noncomputable def res2 (text : Array Nat) (p : Nat) : List Nat := dotsF (p == 0 || text.getD (p - 1) 0 == 10) (text.toList.drop p)

theorem drop_get (text : Array Nat) (p : Nat) (h : p < text.size) : text.toList.drop p = text.getD p 0 :: text.toList.drop (p + 1) := by
  rw [List.drop_eq_getElem_cons (by simpa using h)]
  simp [h]
theorem drop_end (text : Array Nat) (p : Nat) (h : text.size ≤ p) : text.toList.drop p = [] := List.drop_eq_nil_of_le (by simpa using h)
theorem extract_cons (text : Array Nat) (p i : Nat) (h : p < i) (hi : i ≤ text.size) : (text.extract p i).toList = text.getD p 0 :: (text.extract (p + 1) i).toList := by
  have hp : p < text.size := by omega
  simp only [Array.toList_extract, List.extract_eq_take_drop]
  rw [drop_get text p hp]
  have : i - p = (i - (p + 1)) + 1 := by omega
  rw [this, List.take_succ_cons]
theorem extract_nil (text : Array Nat) (p : Nat) : (text.extract p p).toList = [] := by simp

theorem crlfF_skip {l : List Nat} (h : l.head? ≠ some 10) : crlfF true l = crlfF false l := by
  cases l with
  | nil => rfl
  | cons c r =>
    have : c ≠ 10 := fun q => h (by rw [q]; rfl)
    simp [crlfF, this]

theorem res1_step (text : Array Nat) : ∀ d p i, i - p = d → p ≤ i → i < text.size → isNl (text.getD i 0) = true → (∀ j, p ≤ j → j < i → isNl (text.getD j 0) = false) →
    res1 text p = (text.extract p i).toList ++ [13, 10] ++ res1 text (endOf1 text text.size i) := by
  intro d
  induction d with
  | zero =>
    intro p i hd hp hi hn _
    have e : p = i := by omega
    subst e
    rw [extract_nil, List.nil_append]
    unfold res1
    rw [drop_get text p hi]
    by_cases h1 : text.getD p 0 = 10
    · have : endOf1 text text.size p = p + 1 := if_neg (by omega)
      rw [this, h1]; simp [crlfF]
    · have h2 : text.getD p 0 = 13 := by
        unfold isNl at hn
        simp only [Bool.or_eq_true, beq_iff_eq] at hn
        omega
      by_cases h3 : p + 1 < text.size ∧ text.getD (p + 1) 0 = 10
      · have : endOf1 text text.size p = p + 2 := if_pos ⟨h2, h3⟩
        rw [this, h2, drop_get text (p + 1) h3.1, h3.2]; simp [crlfF]
      · have : endOf1 text text.size p = p + 1 := if_neg fun q => h3 q.2
        rw [this, h2]
        have hh : (text.toList.drop (p + 1)).head? ≠ some 10 := by
          by_cases h4 : p + 1 < text.size
          · rw [drop_get text (p + 1) h4]
            simp only [List.head?_cons, ne_eq, Option.some.injEq]
            exact fun q => h3 ⟨h4, q⟩
          · rw [drop_end text (p + 1) (by omega)]; simp
        have e2 : crlfF false (13 :: text.toList.drop (p + 1)) = 13 :: 10 :: crlfF true (text.toList.drop (p + 1)) := by simp [crlfF]
        rw [e2, crlfF_skip hh]; rfl
  | succ d ih =>
    intro p i hd hp hi hn hno
    have q := hno p (Nat.le_refl _) (by omega)
    have ih' := ih (p + 1) i (by omega) (by omega) hi hn fun j h1 h2 => hno j (by omega) h2
    rw [extract_cons text p i (by omega) (by omega), List.cons_append, List.cons_append, ← ih']
    unfold res1
    rw [drop_get text p (by omega)]
    unfold isNl at q
    simp only [Bool.or_eq_false_iff, beq_eq_false_iff_ne, ne_eq] at q
    simp only [crlfF, if_neg q.1, if_neg q.2]

theorem res1_last (text : Array Nat) : ∀ d p, text.size - p = d → (∀ j, p ≤ j → j < text.size → isNl (text.getD j 0) = false) → res1 text p = (text.extract p text.size).toList := by
  intro d
  induction d with
  | zero =>
    intro p hd _
    unfold res1
    rw [drop_end text p (by omega)]
    simp [crlfF]; omega
  | succ d ih =>
    intro p hd hno
    have q := hno p (Nat.le_refl _) (by omega)
    rw [extract_cons text p _ (by omega) (Nat.le_refl _), ← ih (p + 1) (by omega) fun j h1 h2 => hno j (by omega) h2]
    unfold res1
    rw [drop_get text p (by omega)]
    unfold isNl at q
    simp only [Bool.or_eq_false_iff, beq_eq_false_iff_ne, ne_eq] at q
    simp only [crlfF, if_neg q.1, if_neg q.2]

theorem res2_cons (text : Array Nat) (p : Nat) (h : p < text.size) (hd : dotAt text p = false) : res2 text p = text.getD p 0 :: res2 text (p + 1) := by
  unfold res2
  rw [drop_get text p h]
  unfold dotAt at hd
  have hn : ¬ ((p == 0 || text.getD (p - 1) 0 == 10) = true ∧ text.getD p 0 = 46) := fun q => by
    rw [q.1, q.2] at hd; cases hd
  have e : (p + 1 == 0 || text.getD (p + 1 - 1) 0 == 10) = (text.getD p 0 == 10) := by
    rw [Nat.add_sub_cancel]; simp
  rw [dotsF, if_neg hn, e]

theorem res2_step (text : Array Nat) : ∀ d p i, i - p = d → p ≤ i → i < text.size → dotAt text i = true → (∀ j, p ≤ j → j < i → dotAt text j = false) →
    res2 text p = (text.extract p i).toList ++ [46, 46] ++ res2 text (i + 1) := by
  intro d
  induction d with
  | zero =>
    intro p i hd hp hi hn _
    have e : p = i := by omega
    subst e
    rw [extract_nil, List.nil_append]
    unfold res2
    rw [drop_get text p hi]
    unfold dotAt at hn
    rw [Bool.and_eq_true, beq_iff_eq] at hn
    have e : (p + 1 == 0 || text.getD (p + 1 - 1) 0 == 10) = false := by
      rw [Nat.add_sub_cancel, hn.2]; simp
    rw [dotsF, if_pos hn, e]; rfl
  | succ d ih =>
    intro p i hd hp hi hn hno
    rw [res2_cons text p (by omega) (hno p (Nat.le_refl _) (by omega)), extract_cons text p i (by omega) (by omega), ih (p + 1) i (by omega) (by omega) hi hn fun j h1 h2 => hno j (by omega) h2]
    rfl
theorem res2_last (text : Array Nat) : ∀ d p, text.size - p = d → (∀ j, p ≤ j → j < text.size → dotAt text j = false) → res2 text p = (text.extract p text.size).toList := by
  intro d
  induction d with
  | zero =>
    intro p hd _
    unfold res2
    rw [drop_end text p (by omega)]
    simp [dotsF]; omega
  | succ d ih =>
    intro p hd hno
    rw [res2_cons text p (by omega) (hno p (Nat.le_refl _) (by omega)), extract_cons text p _ (by omega) (Nat.le_refl _), ih (p + 1) (by omega) fun j h1 h2 => hno j (by omega) h2]
/-- the whole text, as quotedata gives it -/
noncomputable def crlfT (x : Str) : Str := ⟨(crlfF false x.cps.toList).toArray⟩
noncomputable def dotsT (x : Str) : Str := ⟨(dotsF true x.cps.toList).toArray⟩
theorem res1_zero (x : Str) : res1 x.cps 0 = (crlfT x).cps.toList := by simp [res1, crlfT]
theorem res2_zero (x : Str) : res2 x.cps 0 = (dotsT x).cps.toList := by simp [res2, dotsT]
theorem crlfF_length : ∀ (l : List Nat) (b : Bool), (crlfF b l).length ≤ 2 * l.length
  | [], _ => by simp [crlfF]
  | c :: r, b => by
    have h1 := crlfF_length r false
    have h2 := crlfF_length r true
    unfold crlfF
    (repeat' split) <;> simp only [List.length_cons] <;> omega
theorem dotsF_length : ∀ (l : List Nat) (b : Bool), (dotsF b l).length ≤ 2 * l.length
  | [], _ => by simp [dotsF]
  | c :: r, b => by
    have h1 := dotsF_length r false
    have h2 := dotsF_length r (c == 10)
    unfold dotsF
    split <;> simp only [List.length_cons] <;> omega
end Mine
end
-- R2
section
open PySem PySem.Sre PySem.Builtin PySem.Builtin.Re PySem.Builtin.Str
open Sem (wp)
namespace Mine
set_option maxRecDepth 10000
theorem runFor_add (a b : Nat) (m : M) : m.runFor (a + b) = (m.runFor a).runFor b := by
  induction a generalizing m with
  | zero => rw [Nat.zero_add]; rfl
  | succ n ih =>
    rw [Nat.succ_add]
    show (if m.outcome.isSome then m else M.runFor (n + b) m.step) = M.runFor b (if m.outcome.isSome then m else M.runFor n m.step)
    cases h : m.outcome.isSome with
    | true =>
      simp only [if_true]
      cases b with
      | zero => rfl
      | succ b => show m = (if m.outcome.isSome then m else _); rw [h]; rfl
    | false => simp only [Bool.false_eq_true, if_false]; exact ih _
theorem runFor_stays {m : M} (h : m.outcome.isSome = true) (b : Nat) : m.runFor b = m := by
  cases b with
  | zero => rfl
  | succ b => show (if m.outcome.isSome then m else _) = m; rw [h]; rfl
theorem runFor_same {m : M} {a b : Nat} (ha : (m.runFor a).outcome.isSome = true) (hb : (m.runFor b).outcome.isSome = true) : m.runFor a = m.runFor b := by
  rcases Nat.le_total a b with h | h
  · obtain ⟨c, rfl⟩ := Nat.exists_eq_add_of_le h
    rw [runFor_add, runFor_stays ha]
  · obtain ⟨c, rfl⟩ := Nat.exists_eq_add_of_le h
    rw [runFor_add, runFor_stays hb]
section
variable {Md : Model} {A : Around} {E : Value → Shared → Prop} {s : Shared}
theorem wp_drive {Q : M → Shared → Prop} : ∀ (n k : Nat) (m : M), (m.runFor k).outcome.isSome = true → k ≤ 4 * n → Q (m.runFor k) s → wpAny Md A (reDrive (n + 1) m) Q E s := by
  intro n
  induction n with
  | zero =>
    intro k m ho hk hq
    have : k = 0 := by omega
    subst this
    have e : m.runFor 4 = m.runFor 0 := runFor_same (by rw [runFor_stays (m := m) ho]; exact ho) ho
    show wpAny Md A (if (m.runFor 4).outcome.isSome then pure (m.runFor 4) else _) Q E s
    rw [e, if_pos ho]
    exact wpAny_pure hq
  | succ n ih =>
    intro k m ho hk hq
    show wpAny Md A (if (m.runFor 4).outcome.isSome then pure (m.runFor 4) else (do rule "sre.turn"; reDrive (n + 1) (m.runFor 4))) Q E s
    cases h : (m.runFor 4).outcome.isSome with
    | true =>
      rw [if_pos rfl, runFor_same h ho]
      exact wpAny_pure hq
    | false =>
      rw [if_neg Bool.false_ne_true]
      refine wpAny_bind (wpAny_rule ?_)
      have hk4 : 4 ≤ k := by
        apply Nat.le_of_not_lt
        intro hlt
        have : (m.runFor 4) = m.runFor k := by
          obtain ⟨c, hc⟩ := Nat.exists_eq_add_of_le (Nat.le_of_lt hlt)
          rw [hc, runFor_add, runFor_stays ho]
        rw [this, ho] at h; cases h
      obtain ⟨c, rfl⟩ := Nat.exists_eq_add_of_le hk4
      rw [runFor_add] at ho hq
      exact ih c _ ho (by omega) hq
theorem forIn_units {β : Type} {l : List Nat} {f : Nat → PUnit → Sem (ForInStep PUnit)} {Q : PUnit → Shared → Prop} (hf : ∀ i r (Q' : ForInStep PUnit → Shared → Prop), Q' (.yield PUnit.unit) s → wpAny Md A (f i r) Q' E s) (h : Q PUnit.unit s) :
    wpAny Md A (forIn l PUnit.unit f) Q E s := by
  induction l with
  | nil => exact wpAny_pure h
  | cons i l ih =>
    rw [List.forIn_cons]
    exact wpAny_bind (hf i _ _ ih)
theorem wp_runToEnd {Q : Option M → Shared → Prop} {m m' : M} {k : Nat} (hr : m.runFor k = m') (ho : m'.outcome.isSome = true) (hk : k ≤ 2 ^ 60)
    (h : match m'.outcome with | some .matched => Q (some m') s | some .failed => Q none s | _ => False) : wpAny Md A (reRunToEnd m) Q E s := by
  unfold reRunToEnd
  refine wpAny_bind ?_
  have e : (2 : Nat) ^ 64 = (2 ^ 64 - 1) + 1 := by decide
  rw [e]
  refine wp_drive (2 ^ 64 - 1) k m (by rw [hr]; exact ho) (Nat.le_trans hk (by decide)) ?_
  rw [hr]
  refine wpAny_bind (forIn_units (β := Unit) (fun i r Q' hq => ?_) ?_)
  · split
    · exact wpAny_bind (wpAny_rule (wpAny_pure hq))
    · exact wpAny_pure hq
  · cases q : m'.outcome with
    | none => rw [q] at ho; cases ho
    | some o =>
      rw [q] at h
      cases o with
      | matched => exact wpAny_pure h
      | failed => exact wpAny_pure h
      | stuck => exact h.elim
end

theorem join_empty : ∀ (texts : List PySem.Str), (Txt.join ⟨#[]⟩ texts).cps.toList = (texts.map (·.cps.toList)).flatten := by
  intro texts
  show (glued ⟨#[]⟩ texts).cps.toList = _
  cases texts with
  | nil => rfl
  | cons x rest =>
    have : ∀ (rest : List PySem.Str) (acc : Array Nat), (rest.foldl (fun acc p => acc ++ (#[] : Array Nat) ++ p.cps) acc).toList = acc.toList ++ (rest.map (·.cps.toList)).flatten := by
      intro rest
      induction rest with
      | nil => intro acc; simp
      | cons y r ih => intro acc; rw [List.foldl_cons, ih]; simp
    exact this rest x.cps
end Mine
end
-- R3
section
open PySem PySem.Sre PySem.Builtin PySem.Builtin.Re PySem.Builtin.Str
open Sem (wp)
namespace Mine
set_option maxRecDepth 10000
structure PatAt (h : Heap) (P T : Addr) (C : Array Nat) : Prop where
  pat : ∃ o vs, h.get? P = some o ∧ o.cls = .type "re.Pattern" ∧ o.dict = none ∧ o.data = .fields vs ∧ vs.getD 5 .none = .ref T ∧ vs.getD 2 .none = .int 0 0 ∧ vs.getD 6 .none = .int 0 0
  tab : ∃ o items n, h.get? T = some o ∧ o.data = .seq items n ∧ (items.map reRawOf).map (·.toNat) = C
theorem PatAt.keeps {h h' : Heap} {P T : Addr} {C : Array Nat} (p : PatAt h P T C) (hP : ∀ o, h.get? P = some o → h'.get? P = some o) (hT : ∀ o, h.get? T = some o → h'.get? T = some o) : PatAt h' P T C :=
  ⟨let ⟨o, vs, a, r⟩ := p.pat; ⟨o, vs, hP o a, r⟩, let ⟨o, i, n, a, r⟩ := p.tab; ⟨o, i, n, hT o a, r⟩⟩
noncomputable abbrev tgt (P : Addr) (x : PySem.Str) (tx : Tok) (C : Array Nat) : ReTarget := { pattern := .ref P, string := .str x tx, code := C, text := x.cps, kind := 0, groups := 0, pos := 0, lim := x.cps.size }
section
variable {Md : Model} {A : Around} {E : Value → Shared → Prop} {s : Shared}
theorem wp_target {P T : Addr} {C : Array Nat} {x : PySem.Str} {tx : Tok} {Q : ReTarget → Shared → Prop} (p : PatAt s.heap P T C) (h : Q (tgt P x tx C) s) :
    wpAny Md A (reWholeTarget (.ref P) (.str x tx)) Q E s := by
  obtain ⟨⟨o, vs, ho, hc, hdn, hd, h5, h2, h6⟩, ⟨oT, items, n, hT, hTd, hC⟩⟩ := p
  unfold reWholeTarget
  refine wpAny_bind (wpAny_fieldsOf ho hd ?_)
  have e : reTextOf (.str x tx) = pure (x.cps, 0) := rfl
  rw [e]
  refine wpAny_bind (wpAny_pure ?_)
  have n1 : reNoCollectionInside (.str x tx) 0 = pure () := rfl
  simp only [h5, h2, h6, n1, reRawNat, Bool.and_false, Bool.false_and, if_false, Int.toNat_zero, beq_self_eq_true, Bool.true_and, Bool.and_true]
  have z : ((0 : Nat) == 1) = false := rfl
  simp only [z, Bool.false_eq_true, if_false]
  refine wpAny_bind (wpAny_pure ?_)
  unfold reRawItems
  refine wpAny_bind (wpAny_bind (wpAny_seqItems hT hTd (wpAny_pure ?_)))
  refine wpAny_pure ?_
  rw [show (Option.getD (some items) #[]) = items from rfl, hC]
  exact h
end
theorem entry_sub_loop : entryFor table "re.Pattern.sub.loop" = some Builtin.«re.Pattern.sub.loop» := entryFor_of_tree (by kernel_rfl)
theorem plain_sub_loop : plainId "re.Pattern.sub.loop" = true := by decide +kernel

noncomputable abbrev loopArgs (P D : Addr) (x r : PySem.Str) (tx tr : Tok) (n p : Int) (must : Bool) : Args :=
  ⟨[.ref P, .str x tx, .str r tr, .int 0 0, .int 0 0, .int n 0, .int p 0, .int p 0, .bool must, .ref D, .bool false], []⟩
/-- what a search from `start` finds, and what the rest of the text becomes by it -/
noncomputable def Finds (C text rep : Array Nat) (res : Nat → List Nat) : Prop := ∀ start must, start ≤ text.size →
  (∃ i e k m, start ≤ i ∧ i < e ∧ e ≤ text.size ∧ k ≤ 2 ^ 60 ∧ (forSearch C text 0 start text.size must).runFor k = m ∧ m.outcome = some .matched ∧ m.start = i ∧ m.handed = e ∧
    res start = (text.extract start i).toList ++ rep.toList ++ res e) ∨
  (∃ k m, k ≤ 2 ^ 60 ∧ (forSearch C text 0 start text.size must).runFor k = m ∧ m.outcome = some .failed ∧ res start = (text.extract start text.size).toList)
section
variable {prog : Program} {w : World} {A : Around} {R : Result → Shared → Prop}
theorem strValues_push (l : List (PySem.Str × Tok)) (y : PySem.Str) (t : Tok) : (strValues l).toArray.push (.str y t) = (strValues (l ++ [(y, t)])).toArray := by simp [strValues]
theorem mapSeq_push (l : List (PySem.Str × Tok)) (y : PySem.Str) (t : Tok) (ep : Nat) : ∃ ep', Obj.mapSeq (·.push (.str y t)) ({ cls := .type "list", data := .seq (strValues l).toArray ep } : Obj) = { cls := .type "list", data := .seq (strValues (l ++ [(y, t)])).toArray ep' } := by
  unfold Obj.mapSeq
  simp only [strValues_push]
  exact ⟨_, rfl⟩
theorem sub_loop {P T D : Addr} {C : Array Nat} {x r : PySem.Str} {tx tr : Tok} {res : Nat → List Nat} {W : List Nat} (H : Finds C x.cps r.cps res) (hsz : x.cps.size ≤ 2 ^ 20) (hW : W.length ≤ 2 ^ 22) (hDP : D ≠ P) (hDT : D ≠ T) :
    ∀ d p (n : Int) must (s : Shared) l ep, x.cps.size - p = d → p ≤ x.cps.size → PatAt s.heap P T C → s.heap.get? D = some { cls := .type "list", data := .seq (strValues l).toArray ep } →
      (l.map (·.1.cps.toList)).flatten ++ res p = W → l.length ≤ 2 * p →
      (∀ t h' tk, (∀ b, b ≠ D → h'.get? b = s.heap.get? b) → R (.ok (.ret (.str ⟨W.toArray⟩ t))) { s with heap := h', toks := tk }) →
      codeAny (model prog w) A (.builtin "re.Pattern.sub.loop" (loopArgs P D x r tx tr n p must)) R s := by
  intro d
  induction d using Nat.strongRecOn with
  | _ d ih =>
  intro p n must s l ep hd hp hpat hD hl hlen hR
  refine codeAny_builtin entry_sub_loop ?_
  rw [Around.under_plainId plain_sub_loop]
  unfold Builtin.«re.Pattern.sub.loop»
  dsimp only [loopArgs]
  refine wpAny_bind (wp_target hpat ?_)
  have z0 : ((0 : Int) == 0) = true := rfl
  have z1 : ((0 : Int) != 0) = false := rfl
  have z2 : (Value.str r tr != Value.none) = true := rfl
  have lit : reLiteralCannotBeTurned (.str r tr) = pure () := rfl
  simp only [z0, z1, z2, lit, Bool.false_and, if_true, Bool.false_eq_true, if_false, Int.toNat_natCast]
  refine wpAny_bind (wpAny_pure ?_)
  unfold reNextFound
  have hup : ∀ (h1 : Heap) (b : Addr) (f : Obj → Obj), b ≠ D → (h1.update D f).get? b = h1.get? b := fun h1 b f hb => Heap.get?_update_ne _ _ _ _ hb
  rcases H p must hp with ⟨i, e, k, m, hi, hie, he, hk, hrun, hout, hst, hha, hres⟩ | ⟨k, m, hk, hrun, hout, hres⟩
  · refine wpAny_bind (wp_runToEnd hrun (by rw [hout]; rfl) hk ?_)
    rw [hout]
    show wpAny _ _ _ _ _ s
    simp only [hst, hha]
    -- the replacement and the next turn
    have after : ∀ (h1 : Heap) (tk1 : Nat) (l1 : List (PySem.Str × Tok)) (ep1 : Nat), (∀ b, b ≠ D → h1.get? b = s.heap.get? b) → h1.get? D = some { cls := .type "list", data := .seq (strValues l1).toArray ep1 } →
        (l1.map (·.1.cps.toList)).flatten = (l.map (·.1.cps.toList)).flatten ++ (x.cps.extract p i).toList → l1.length ≤ 2 * i + 1 →
        wpAny (model prog w) A.in1 (do
            let item ← (pure (Value.str r tr) : Sem Value)
            if (item != Value.none) = true then do
              updateSeq D fun x => x.push item
              again (.builtin "re.Pattern.sub.loop" { pos := [.ref P, .str x tx, .str r tr, rawInt 0, rawInt 0, rawInt (n + 1), rawInt e, rawInt e, .bool (e == i), .ref D, .bool false] })
            else again (.builtin "re.Pattern.sub.loop" { pos := [.ref P, .str x tx, .str r tr, rawInt 0, rawInt 0, rawInt (n + 1), rawInt e, rawInt e, .bool (e == i), .ref D, .bool false] }))
          (fun fin s' => match fin with | .done f => R (.ok f) s' | .again c' => c'.quiet = true ∧ codeAny (model prog w) A c' R s') (fun e s' => R (.error e) s') { s with heap := h1, toks := tk1 } := by
      intro h1 tk1 l1 ep1 hk1 hD1 hl1 hlen1
      refine wpAny_bind (wpAny_pure ?_)
      rw [if_pos z2]
      obtain ⟨ep2, hm2⟩ := mapSeq_push l1 r tr ep1
      have hsl : (2 : Nat) ^ 24 = 16777216 := by decide
      have h20 : (2 : Nat) ^ 20 = 1048576 := by decide
      refine wpAny_bind (wpAny_updateSeq (o := { cls := .type "list", data := .seq (strValues l1).toArray ep1 }) hD1 rfl ?_ ?_ ?_)
      · refine wpAny_pure ⟨plainId_quiet plain_sub_loop _, ?_⟩
        refine ih (x.cps.size - e) (by omega) e (n + 1) (e == i) _ (l1 ++ [(r, tr)]) ep2 rfl he ?_ ?_ ?_ ?_ ?_
        · exact hpat.keeps (fun o q => by show (h1.update D _).get? P = _; rw [hup _ _ _ (Ne.symm hDP), hk1 _ (Ne.symm hDP)]; exact q) (fun o q => by show (h1.update D _).get? T = _; rw [hup _ _ _ (Ne.symm hDT), hk1 _ (Ne.symm hDT)]; exact q)
        · show (h1.update D _).get? D = _
          rw [← hm2]
          exact Heap.get?_update_self _ hD1 (by rw [hm2]; rfl)
        · rw [← hl, hres]
          simp [hl1]
        · simp only [List.length_append, List.length_cons, List.length_nil]; omega
        · intro t h' tk hh
          exact hR t h' tk fun b hb => by rw [hh b hb]; show (h1.update D _).get? b = _; rw [hup _ _ _ hb, hk1 b hb]
      · show (strValues l1).toArray.size ≤ 2 ^ 24
        simp only [strValues, List.size_toArray, List.length_map]; omega
      · show ((strValues l1).toArray.push _).size ≤ 2 ^ 24 + 1
        simp only [strValues, List.size_toArray, List.length_map, Array.size_push]; omega
    by_cases hpi : p < i
    · rw [if_pos hpi]
      unfold reSlice
      rw [if_pos (by rfl)]
      refine wpAny_bind (wpAny_mkStr ?_ ?_)
      · obtain ⟨ep2, hm2⟩ := mapSeq_push l ⟨x.cps.extract p i⟩ s.toks ep
        have h20 : (2 : Nat) ^ 20 = 1048576 := by decide
        have hsl : (2 : Nat) ^ 24 = 16777216 := by decide
        refine wpAny_bind (wpAny_updateSeq (o := { cls := .type "list", data := .seq (strValues l).toArray ep }) hD rfl ?_ ?_ ?_)
        · refine after (s.heap.update D _) _ (l ++ [(⟨x.cps.extract p i⟩, s.toks)]) ep2 (fun b hb => hup _ _ _ hb) ?_ ?_ ?_
          · rw [← hm2]
            exact Heap.get?_update_self _ hD (by rw [hm2]; rfl)
          · simp
          · simp only [List.length_append, List.length_cons, List.length_nil]; omega
        · show (strValues l).toArray.size ≤ 2 ^ 24
          simp only [strValues, List.size_toArray, List.length_map]; omega
        · show ((strValues l).toArray.push _).size ≤ 2 ^ 24 + 1
          simp only [strValues, List.size_toArray, List.length_map, Array.size_push]; omega
      · show (x.cps.extract p i).size ≤ 2 ^ 24
        have h20 : (2 : Nat) ^ 20 = 1048576 := by decide
        have hsl : (2 : Nat) ^ 24 = 16777216 := by decide
        rw [Array.size_extract]; omega
    · rw [if_neg hpi]
      have : p = i := by omega
      subst this
      exact after s.heap s.toks l ep (fun _ _ => rfl) hD (by simp) (by omega)
  · refine wpAny_bind (wp_runToEnd hrun (by rw [hout]; rfl) hk ?_)
    rw [hout]
    show wpAny _ _ _ _ _ s
    have h20 : (2 : Nat) ^ 20 = 1048576 := by decide
    have h22 : (2 : Nat) ^ 22 = 4194304 := by decide
    have hsl : (2 : Nat) ^ 24 = 16777216 := by decide
    have after : ∀ (h1 : Heap) (tk1 : Nat) (l1 : List (PySem.Str × Tok)) (ep1 : Nat), (∀ b, b ≠ D → h1.get? b = s.heap.get? b) → h1.get? D = some { cls := .type "list", data := .seq (strValues l1).toArray ep1 } →
        (l1.map (·.1.cps.toList)).flatten = W →
        wpAny (model prog w) A.in1 (do
            let joiner ← reSlice x.cps 0 0 0
            let __do_lift ← seqItems? (.ref D)
            if (__do_lift.getD #[]).isEmpty = true then do
              let text ← (pure joiner : Sem Value)
              ret text
            else do
              let text ← call (.builtin (if ((0 : Nat) == 0) = true then "str.join" else "bytes.join")) [joiner, .ref D]
              ret text)
          (fun fin s' => match fin with | .done f => R (.ok f) s' | .again c' => c'.quiet = true ∧ codeAny (model prog w) A c' R s') (fun e s' => R (.error e) s') { s with heap := h1, toks := tk1 } := by
      intro h1 tk1 l1 ep1 hk1 hD1 hl1
      unfold reSlice
      rw [if_pos (by rfl)]
      have ee : x.cps.extract 0 0 = #[] := by simp
      refine wpAny_bind (wpAny_mkStr ?_ ?_)
      · rw [ee]
        refine wpAny_bind (wpAny_seqItems (o := { cls := .type "list", data := .seq (strValues l1).toArray ep1 }) hD1 rfl ?_)
        cases l1 with
        | nil =>
          have hn : W = [] := by rw [← hl1]; rfl
          rw [if_pos (by rfl)]
          refine wpAny_bind (wpAny_pure ?_)
          refine wpAny_pure ?_
          have := hR tk1 h1 (tk1 + 1) hk1
          rw [hn] at this
          exact this
        | cons y r' =>
          rw [if_neg (by simp [strValues])]
          rw [if_pos (show ((0 : Nat) == 0) = true from rfl)]
          refine wpAny_bind (SC.join (l := y :: r') (texts := (y :: r').map (·.1)) ?_ rfl ?_ ?_)
          · exact ⟨_, hD1, rfl, _, rfl⟩
          · unfold JoinOk
            have hlen : (((y :: r').map (·.1)).map (·.length)).sum = W.length := by
              rw [← hl1, List.length_flatten, List.map_map, List.map_map]
              rfl
            rw [StrLaws.joinTotal, hlen]
            have z : PySem.Str.length ⟨#[]⟩ = 0 := rfl
            rw [z, Nat.mul_zero, Nat.add_zero]
            unfold tooLong sizeLine
            simp only [gt_iff_lt, Bool.not_eq_true', decide_eq_false_iff_not]; omega
          · intro t' k'
            refine wpAny_pure ?_
            have e : Txt.join ⟨#[]⟩ ((y :: r').map (·.1)) = ⟨W.toArray⟩ := by
              have := join_empty ((y :: r').map (·.1))
              rw [List.map_map] at this
              have h3 : (Txt.join ⟨#[]⟩ ((y :: r').map (·.1))).cps = W.toArray := by
                apply Array.ext'
                rw [this, ← hl1]; rfl
              cases hj : Txt.join ⟨#[]⟩ ((y :: r').map (·.1)) with
              | mk c => rw [hj] at h3; simpa using h3
            rw [e]
            exact hR t' h1 k' hk1
      · rw [ee]; exact Nat.zero_le _
    by_cases hpi : p < x.cps.size
    · rw [if_pos hpi]
      have rs : ∀ b e, reSlice x.cps 0 b e = mkStr ⟨x.cps.extract b e⟩ := fun b e => by unfold reSlice; rw [if_pos (by rfl)]
      rw [rs]
      refine wpAny_bind (wpAny_mkStr ?_ ?_)
      · obtain ⟨ep2, hm2⟩ := mapSeq_push l ⟨x.cps.extract p x.cps.size⟩ s.toks ep
        refine wpAny_bind (wpAny_updateSeq (o := { cls := .type "list", data := .seq (strValues l).toArray ep }) hD rfl ?_ ?_ ?_)
        · refine after (s.heap.update D _) _ (l ++ [(⟨x.cps.extract p x.cps.size⟩, s.toks)]) ep2 (fun b hb => hup _ _ _ hb) ?_ ?_
          · rw [← hm2]
            exact Heap.get?_update_self _ hD (by rw [hm2]; rfl)
          · rw [← hl, hres]; simp
        · show (strValues l).toArray.size ≤ 2 ^ 24
          simp only [strValues, List.size_toArray, List.length_map]; omega
        · show ((strValues l).toArray.push _).size ≤ 2 ^ 24 + 1
          simp only [strValues, List.size_toArray, List.length_map, Array.size_push]; omega
      · show (x.cps.extract p x.cps.size).size ≤ 2 ^ 24
        rw [Array.size_extract]; omega
    · rw [if_neg hpi]
      have : p = x.cps.size := by omega
      refine after s.heap s.toks l ep (fun _ _ => rfl) hD ?_
      rw [← hl, hres, this]; simp
end
end Mine
end
-- R4
section
open PySem PySem.Sre PySem.Builtin PySem.Builtin.Re PySem.Builtin.Str
open Sem (wp)
namespace Mine
set_option maxRecDepth 100000
theorem endOf1_le (text : Array Nat) (i : Nat) (h : i < text.size) : i < endOf1 text text.size i ∧ endOf1 text text.size i ≤ text.size := by
  by_cases q : text.getD i 0 = 13 ∧ i + 1 < text.size ∧ text.getD (i + 1) 0 = 10
  · rw [endOf1, if_pos q]; omega
  · rw [endOf1, if_neg q]; omega
theorem finds1 (x : PySem.Str) (hsz : x.cps.size ≤ 2 ^ 20) : Finds C1 x.cps #[13, 10] (res1 x.cps) := by
  intro start must hs
  have h60 : (2 : Nat) ^ 60 = 1152921504606846976 := by decide
  rcases find1 x.cps start x.cps.size must with ⟨i, k, m, a, b, c, d, hk, hr, h1, h2, h3⟩ | ⟨d, k, m, hk, hr, h1⟩
  · have := endOf1_le x.cps i b
    exact .inl ⟨i, endOf1 x.cps x.cps.size i, k, m, a, this.1, this.2, by omega, hr, h1, h2, h3, res1_step x.cps _ start i rfl a b c d⟩
  · exact .inr ⟨k, m, by omega, hr, h1, res1_last x.cps _ start rfl d⟩
theorem finds2 (x : PySem.Str) (hsz : x.cps.size ≤ 2 ^ 20) : Finds C2 x.cps #[46, 46] (res2 x.cps) := by
  intro start must hs
  have h60 : (2 : Nat) ^ 60 = 1152921504606846976 := by decide
  have h20 : (2 : Nat) ^ 20 = 1048576 := by decide
  rcases find2 x.cps start x.cps.size must with ⟨i, k, m, a, b, c, d, hk, hr, h1, h2, h3⟩ | ⟨d, k, m, hk, hr, h1⟩
  · exact .inl ⟨i, i + 1, k, m, a, by omega, by omega, by omega, hr, h1, h2, h3, res2_step x.cps _ start i rfl a b c d⟩
  · exact .inr ⟨k, m, by omega, hr, h1, res2_last x.cps _ start rfl d⟩
theorem slot_re_sub : Slot "re.Pattern" "sub" "re.Pattern.sub" :=
  .of (owner := "re.Pattern") (n := "sub") (by rw [typeLookup_type, builtinLookup_eq_fast]; kernel_rfl) (by decide +kernel) (by decide +kernel) (by decide +kernel)
    (by first | exact .inl (by decide +kernel) | exact .inr (by decide +kernel)) (by rw [isSubtype_type]; kernel_rfl)
theorem type_re_sub : typeOf (.builtin "re.Pattern.sub") = pure (.type "method_descriptor") := by show builtinType _ = _; rw [builtinType_eq_fast]; kernel_rfl
theorem entry_re_sub : entryFor table "re.Pattern.sub" = some Builtin.«re.Pattern.sub» := entryFor_of_tree (by kernel_rfl)
theorem str_no_call : typeLookup (.type "str") "__call__" = pure none := by rw [typeLookup_type, builtinLookup_eq_fast]; kernel_rfl
theorem args_re_sub (a b c : Value) : argsOk "re.Pattern.sub" ⟨[a, b, c], []⟩ := by
  unfold argsOk
  kernel_rfl
theorem plainAttrs_re : PlainAttrs "re.Pattern" :=
  ⟨⟨"object.__getattribute__", by rw [typeLookup_type, builtinLookup_eq_fast]; kernel_rfl, by decide +kernel⟩, by rw [typeLookup_type, builtinLookup_eq_fast]; kernel_rfl⟩
section
variable {prog : Program} {w : World} {A : Around} {E : Value → Shared → Prop} {s : Shared}
theorem named_sub (id f : String) (a b : Value) : reNamed id f ["repl", "string", "count"] 2 [a, b] [] = pure [some a, some b, none] := by rfl
theorem call_sub {P T : Addr} {C : Array Nat} {x r : PySem.Str} {tx tr : Tok} {res : Nat → List Nat} {Q : Value → Shared → Prop} (hpat : PatAt s.heap P T C) (H : Finds C x.cps r.cps res) (hsz : x.cps.size ≤ 2 ^ 20) (hW : (res 0).length ≤ 2 ^ 22)
    (hr : r.cps.contains 92 = false)
    (hQ : ∀ t h' tk, (∀ b o, s.heap.get? b = some o → h'.get? b = some o) → Q (.str ⟨(res 0).toArray⟩ t) { s with heap := h', toks := tk }) :
    wpAny (model prog w) A (call (.builtin "re.Pattern.sub") [.ref P, .str r tr, .str x tx]) Q E s := by
  have hT : s.TypeIs (.ref P) "re.Pattern" := let ⟨o, _, a, b, _⟩ := hpat.pat; ⟨o, a, b⟩
  refine wpAny_call (codeAny_call_builtin slot_re_sub.plain entry_re_sub (slot_re_sub.check _ _ _ _ _ _ _ _ hT (args_re_sub _ _ _) ?_))
  unfold Builtin.«re.Pattern.sub» reSubstitute
  dsimp only
  rw [named_sub]
  refine wpAny_bind (wpAny_pure ?_)
  dsimp only
  refine wpAny_bind (wpAny_pure ?_)
  refine wpAny_bind (wpAny_specialOf (typeIs_str _ _ _) str_no_call ?_)
  have z0 : ((0 : Int) == 1) = false := rfl
  have as : asStr? (.str r tr) = pure (some r) := rfl
  simp only [Option.isSome_none, Bool.false_eq_true, if_false, as]
  refine wpAny_bind (wpAny_pure ?_)
  dsimp only
  refine wpAny_bind (wpAny_pure ?_)
  rw [hr]
  simp only [Bool.not_false, if_true]
  refine wpAny_bind (wpAny_pure ?_)
  dsimp only
  refine wpAny_bind (wpAny_holding (wp_target hpat ?_))
  simp only [z0, Bool.false_eq_true, if_false]
  refine wpAny_bind (wpAny_newList ?_ (Nat.zero_le _))
  refine wpAny_pure ⟨plainId_quiet plain_sub_loop _, ?_⟩
  have hnew : ∀ b o, s.heap.get? b = some o → (s.heap.push { cls := .type "list", data := .seq [].toArray }).get? b = some o := fun b o e => Heap.get?_push_of_some _ e
  obtain ⟨oP, _, hP, _⟩ := hpat.pat
  obtain ⟨oT, _, _, hT', _⟩ := hpat.tab
  refine sub_loop (T := T) (C := C) (W := res 0) H hsz hW (Nat.ne_of_gt (Heap.lt_size hP)) (Nat.ne_of_gt (Heap.lt_size hT')) _ 0 0 false _ [] 0 rfl (Nat.zero_le _) (hpat.keeps (hnew P) (hnew T)) (Heap.get?_push_size _ rfl) rfl (Nat.zero_le _) ?_
  intro t h' tk hk
  exact hQ t h' tk fun b o e => by
    rw [hk b (Nat.ne_of_lt (Heap.lt_size e))]
    exact hnew b o e
end
end Mine
end
-- L1
section
open PySem PySem.W PySem.Calls PyProof.Rows
namespace Mine
noncomputable abbrev listObj (vs : List Value) (n : Nat) : Obj := { cls := .type "list", data := .seq vs.toArray n }
noncomputable def LedPost (h₀ : Heap) (L I : Addr) (own : List (Addr × Obj)) (J : (Str → Option Value) → List (Addr × Obj) → Prop) (s₁ : Shared) (Q : Flow → Shared → Prop) (f : Flow) (s₂ : Shared) : Prop :=
  match f with
  | .ret v => Q (.ret v) s₂
  | .brk => Q .next s₂
  | _ => ∃ h' tk m₂ news₂, s₂ = { s₁ with heap := h', toks := tk } ∧ Fr h₀ L h' m₂ ∧ News h₀ L h' (own ++ news₂) ∧ (∀ p ∈ news₂, p.1 ≠ I) ∧ J m₂ news₂
section
variable {prog : Program} {w : World} {A : Around} {E : Value → Shared → Prop} {s : Shared} {env : Env} {h₀ : Heap} {x : Str} {body : List Stmt} {Q : Flow → Shared → Prop}
theorem iter_led {l : Addr} {vs : List Value} {n : Nat} {m₀ : Str → Option Value} {news : List (Addr × Obj)} (J : Nat → (Str → Option Value) → List (Addr × Obj) → Prop)
    (hh : A.handled = none) (hm : (l, listObj vs n) ∈ news) (F : Fr h₀ env.locals s.heap m₀) (N : News h₀ env.locals s.heap news) (hj : J 0 m₀ news)
    (turn : ∀ i v m₁ news₁ h tk own I oI, vs[i]? = some v → J i m₁ news₁ → (∀ p ∈ news₁, p.1 ≠ I) → (I, oI) ∈ own → oI.cls = .type "list_iterator" →
      Fr h₀ env.locals h (fun y => if y = x then some v else m₁ y) → News h₀ env.locals h (own ++ news₁) →
      wpAny (model prog w) A (execs body env) (LedPost h₀ env.locals I own (J (i + 1)) { s with heap := h, toks := tk } Q) E { s with heap := h, toks := tk })
    (done : ∀ m₁ news₁ h tk, J vs.length m₁ news₁ → Fr h₀ env.locals h m₁ → News h₀ env.locals h news₁ → Q .next { s with heap := h, toks := tk }) :
    wpAny (model prog w) A (pyIter (.ref l)) (fun it s₂ => LoopAtV prog w A h₀ env x body Q E it s₂) E s := by
  have ho := N.get hm
  have hfr := N.fresh hm
  have hlL : l ≠ env.locals := (N _ hm).2.1
  have hls : s.heap.IsList l vs.toArray := ⟨_, ho, rfl, n, rfl⟩
  have hlt : l < s.heap.objs.size := Heap.lt_size ho
  have hne : l ≠ s.heap.objs.size := Nat.ne_of_lt hlt
  refine wpAny_pyIter_list hls ?_
  have W := Walks.list (prog := prog) (w := w) hh s.heap.objs.size l hne vs.toArray
  have hlen : vs.toArray.size = vs.length := by simp
  rw [hlen] at W
  refine ⟨_, _, _, vs.length, _, _, m₀, news, J, rfl, W, ?_, ?_, ?_, ⟨⟨_, Heap.get?_push_size _ rfl, rfl, rfl⟩, hls.at fun o e => Heap.get?_push_of_some _ e⟩, F.push _, (fun p hp => ⟨Heap.get?_push_of_some _ (N p hp).1, (N p hp).2⟩), hj, ?_, ?_⟩
  · intro hm
    rcases List.mem_cons.mp hm with e | hm
    · exact absurd F.ns.lt (e ▸ Nat.lt_irrefl _)
    · exact hlL (List.mem_singleton.mp hm).symm
  · intro b hb
    rw [List.mem_singleton.mp hb]
    exact next_is_new F
  · intro p hp hI
    exact absurd (Heap.lt_size (N p hp).1) ((List.mem_singleton.mp hI) ▸ Nat.lt_irrefl _)
  · rintro i v m₁ news₁ s₁ own ⟨hh', tk', rfl⟩ hin hP hJ hoff hown _ hall hSt F₁ N₁
    obtain ⟨oI, hoI, hcI, _⟩ := hSt.1
    have hmI : (s.heap.objs.size, oI) ∈ own := hall _ (by simp) (next_is_new F) _ hoI
    have hP' : vs[i]? = some v := by simpa using hP
    refine wpAny_mono (turn i v m₁ news₁ hh' tk' own _ oI hP' hJ (fun p hp q => hoff p hp (by rw [q]; simp)) hmI hcI F₁ N₁) (fun f s₂ p => ?_) fun _ _ e => e
    cases f with
    | ret v => exact .ret p
    | brk => exact .brk p
    | next =>
      obtain ⟨h', tk, m₂, news₂, e, F₂, N₂, ha, hJ₂⟩ := p
      exact .next ⟨rfl, h', tk, m₂, news₂, e, F₂, N₂, fun p hp q => ha p hp (List.mem_singleton.mp q), hJ₂⟩
    | cont =>
      obtain ⟨h', tk, m₂, news₂, e, F₂, N₂, ha, hJ₂⟩ := p
      exact .cont ⟨rfl, h', tk, m₂, news₂, e, F₂, N₂, fun p hp q => ha p hp (List.mem_singleton.mp q), hJ₂⟩
  · rintro h' tk m' news' F' N' _ hJ
    exact done m' news' h' tk hJ F' N'
/-- a turn that only adds to the ledger -/
theorem LedPost.added {L I : Addr} {own news₁ : List (Addr × Obj)} {oI : Obj} {J : (Str → Option Value) → List (Addr × Obj) → Prop} {s₁ : Shared} {h' : Heap} {tk : Nat} {m₂ : Str → Option Value} (nw : List (Addr × Obj))
    (hI : (I, oI) ∈ own) (hc : oI.cls = .type "list_iterator") (hoff : ∀ p ∈ news₁, p.1 ≠ I) (F : Fr h₀ L h' m₂) (N : News h₀ L h' (nw ++ (own ++ news₁))) (hnw : ∀ p ∈ nw, p.2.cls ≠ .type "list_iterator") (hJ : J m₂ (nw ++ news₁)) :
    LedPost h₀ L I own J s₁ Q .next { s₁ with heap := h', toks := tk } := by
  refine ⟨h', tk, m₂, nw ++ news₁, rfl, F, fun p hp => ?_, fun p hp q => ?_, hJ⟩
  · apply N
    simp only [List.mem_append] at hp ⊢
    rcases hp with h | h | h
    · exact .inr (.inl h)
    · exact .inl h
    · exact .inr (.inr h)
  · rcases List.mem_append.mp hp with h | h
    · have e1 := (N _ (List.mem_append_left _ h)).1
      have e2 := (N _ (List.mem_append_right _ (List.mem_append_left _ hI))).1
      rw [q, e2] at e1
      exact hnw p h (Option.some.inj e1 ▸ hc)
    · exact hoff p h q
end
end Mine
end
-- L2
section
open PySem PySem.W PySem.Calls PyProof.Rows
namespace Mine
noncomputable abbrev Off (D : Addr) (news : List (Addr × Obj)) : Prop := ∀ p ∈ news, p.1 ≠ D
theorem off_size {h₀ h : Heap} {L : Addr} {news : List (Addr × Obj)} (N : News h₀ L h news) : Off h.objs.size news := fun p hp => Nat.ne_of_lt (Heap.lt_size (N p hp).1)
section
variable {prog : Program} {w : World} {A : Around} {E : Value → Shared → Prop} {s : Shared} {h₀ : Heap} {L : Addr} {m : Str → Option Value} {news : List (Addr × Obj)}
/-- a written part of a list is deleted -/
theorem del_led {pre post : List (Addr × Obj)} {l : Addr} {vs : List Value} {n k : Nat} {i : Int} {u : Tok} {Q : Unit → Shared → Prop} (F : Fr h₀ L s.heap m) (N : News h₀ L s.heap (pre ++ (l, listObj vs n) :: post)) (h1 : Off l pre) (h2 : Off l post)
    (hfit : Builtin.List.listFitsIndex i = true) (hk : seqIndex? i vs.length = some k) (hsz : vs.length ≤ sizeLine)
    (h : ∀ h' n', Fr h₀ L h' m → News h₀ L h' (pre ++ (l, listObj (vs.eraseIdx k) n') :: post) → Q () { s with heap := h' }) : wpAny (model prog w) A (delItem (.ref l) (.int i u)) Q E s := by
  have hl := N.get (List.mem_append_right _ (List.mem_cons_self ..))
  refine P.delItem_list (n := n) hl hfit (by simpa using hk) ?_ (by simpa using hsz)
  obtain ⟨n', e⟩ : ∃ n', Obj.mapSeq (fun xs => xs.eraseIdxIfInBounds k) (listObj vs n) = listObj (vs.eraseIdx k) n' := by
    have : vs.toArray.eraseIdxIfInBounds k = (vs.eraseIdx k).toArray := by simp
    exact ⟨_, by unfold Obj.mapSeq; simp only [this]; rfl⟩
  obtain ⟨F', N'⟩ := news_upd (f := Obj.mapSeq fun xs => xs.eraseIdxIfInBounds k) F N h1 h2 e rfl
  exact h _ n' F' N'
theorem split_led {x y : Str} {t u : Tok} {ps : List Str} {Q : Value → Shared → Prop} (F : Fr h₀ L s.heap m) (N : News h₀ L s.heap news) (hy : (y.length == 0) = false) (hsp : Txt.split x y = ps) (hsz : x.length + 2 ≤ 16777216)
    (h : ∀ D (l : List (Str × Tok)) h' k, l.map (·.1) = ps → StrsAre (strValues l) (l.map (·.1)) → (∀ a ∈ l.map (·.1), a.length ≤ x.length) → h'.IsList D (strValues l).toArray → Off D news → Fr h₀ L h' m → News h₀ L h' ((D, listObj (strValues l) 0) :: news) → Q (.ref D) { s with heap := h', toks := k }) :
    wpAny (model prog w) A (call (.builtin "str.split") [.str x t, .str y u]) Q E s :=
  splitN1A F N hy (fun l h' k e a1 a2 a3 F' N' => h _ l h' k (e.trans hsp) a1 a2 a3 (off_size N) F' N') (Nat.le_trans hsz (by decide))
end

/-- a map of names, turned at some names -/
noncomputable def upd (m : Str → Option Value) : List (Str × Option Value) → Str → Option Value
  | [], z => m z
  | (x, v) :: r, z => if z = x then v else upd m r z
noncomputable def AllVals (m : Str → Option Value) : List (Str × Option Value) → Prop
  | [] => True
  | (x, v) :: r => m x = v ∧ AllVals m r
theorem upd_in {m m₀ : Str → Option Value} {z : Str} : ∀ {l : List (Str × Option Value)}, AllVals m l → (∃ p ∈ l, z = p.1) → upd m₀ l z = m z
  | [], _, h => by obtain ⟨p, hp, _⟩ := h; cases hp
  | (x, v) :: r, hv, h => by
    unfold upd
    by_cases q : z = x
    · rw [if_pos q, q]; exact hv.1.symm
    · rw [if_neg q]
      obtain ⟨p, hp, e⟩ := h
      rcases List.mem_cons.mp hp with rfl | hp
      · exact absurd e q
      · exact upd_in hv.2 ⟨p, hp, e⟩
theorem upd_off {m₀ : Str → Option Value} {z : Str} : ∀ {l : List (Str × Option Value)}, (∀ p ∈ l, z ≠ p.1) → upd m₀ l z = m₀ z
  | [], _ => rfl
  | (x, v) :: r, h => by
    unfold upd
    rw [if_neg (h _ (List.mem_cons_self ..))]
    exact upd_off fun p hp => h p (List.mem_cons_of_mem _ hp)
theorem upd_of {m m₀ : Str → Option Value} {l : List (Str × Option Value)} (hv : AllVals m l) (h : ∀ z, (∀ p ∈ l, z ≠ p.1) → m z = m₀ z) (z : Str) : m z = upd m₀ l z := by
  by_cases q : ∃ p ∈ l, z = p.1
  · exact (upd_in hv q).symm
  · have q' : ∀ p ∈ l, z ≠ p.1 := fun p hp e => q ⟨p, hp, e⟩
    rw [upd_off q', h z q']
noncomputable def UpdPost {σ : Type} (m₀ : Str → Option Value) (vals : σ → List (Str × Option Value)) (nOf : σ → List (Addr × Obj)) (Inv : σ → Prop) (h₀ : Heap) (L I : Addr) (own : List (Addr × Obj)) (s₁ : Shared) (Q : Flow → Shared → Prop) (f : Flow) (s₂ : Shared) : Prop :=
  match f with
  | .ret v => Q (.ret v) s₂
  | .brk => Q .next s₂
  | _ => ∃ h' tk m₂ a, s₂ = { s₁ with heap := h', toks := tk } ∧ Fr h₀ L h' m₂ ∧ (∀ z, m₂ z = upd m₀ (vals a) z) ∧ News h₀ L h' (own ++ nOf a) ∧ Off I (nOf a) ∧ Inv a
theorem UpdPost.fin {σ : Type} {m₀ : Str → Option Value} {vals : σ → List (Str × Option Value)} {nOf : σ → List (Addr × Obj)} {Inv : σ → Prop} {h₀ : Heap} {L I : Addr} {own : List (Addr × Obj)} {s₁ : Shared} {Q : Flow → Shared → Prop} {h' : Heap} {tk : Nat} {m₂ : Str → Option Value} (a : σ)
    (F : Fr h₀ L h' m₂) (hv : AllVals m₂ (vals a)) (hm : ∀ z, (∀ p ∈ vals a, z ≠ p.1) → m₂ z = m₀ z) (N : News h₀ L h' (own ++ nOf a)) (ho : Off I (nOf a)) (hI : Inv a) : UpdPost m₀ vals nOf Inv h₀ L I own s₁ Q .next { s₁ with heap := h', toks := tk } := ⟨h', tk, m₂, a, rfl, F, upd_of hv hm, N, ho, hI⟩
section
variable {prog : Program} {w : World} {A : Around} {E : Value → Shared → Prop} {s : Shared} {env : Env} {h₀ : Heap} {x : Str} {body : List Stmt} {Q : Flow → Shared → Prop}
/-- a loop over a list of the ledger: the frame's map and the ledger are functions of a state -/
theorem iter_upd {σ : Type} (vals : σ → List (Str × Option Value)) (nOf : σ → List (Addr × Obj)) (Inv : Nat → σ → Prop) (a₀ : σ) {l : Addr} {vs : List Value} {n : Nat} {m₀ : Str → Option Value} {news : List (Addr × Obj)}
    (hh : A.handled = none) (hm : (l, listObj vs n) ∈ news) (F : Fr h₀ env.locals s.heap m₀) (N : News h₀ env.locals s.heap news) (hm0 : AllVals m₀ (vals a₀)) (hn0 : nOf a₀ = news) (hj : Inv 0 a₀)
    (turn : ∀ i v a h tk own I oI, vs[i]? = some v → Inv i a → Off I (nOf a) → (I, oI) ∈ own → oI.cls = .type "list_iterator" →
      Fr h₀ env.locals h (fun y => if y = x then some v else upd m₀ (vals a) y) → News h₀ env.locals h (own ++ nOf a) →
      wpAny (model prog w) A (execs body env) (UpdPost m₀ vals nOf (Inv (i + 1)) h₀ env.locals I own { s with heap := h, toks := tk } Q) E { s with heap := h, toks := tk })
    (done : ∀ a h tk, Inv vs.length a → Fr h₀ env.locals h (upd m₀ (vals a)) → News h₀ env.locals h (nOf a) → Q .next { s with heap := h, toks := tk }) :
    wpAny (model prog w) A (pyIter (.ref l)) (fun it s₂ => LoopAtV prog w A h₀ env x body Q E it s₂) E s := by
  refine iter_led (fun i m₁ news₁ => ∃ a, (∀ z, m₁ z = upd m₀ (vals a) z) ∧ news₁ = nOf a ∧ Inv i a) hh hm F N ⟨a₀, upd_of hm0 fun _ _ => rfl, hn0.symm, hj⟩ ?_ ?_
  · rintro i v m₁ news₁ h tk own I oI hv ⟨a, hma, rfl, hI⟩ hoff hoI hc F₁ N₁
    have e : m₁ = upd m₀ (vals a) := funext hma
    rw [e] at F₁
    refine wpAny_mono (turn i v a h tk own I oI hv hI hoff hoI hc F₁ N₁) (fun f s₂ p => ?_) fun _ _ e => e
    cases f with
    | ret v => exact p
    | brk => exact p
    | next =>
      obtain ⟨h', tk, m₂, a', e, F₂, hm₂, N₂, ho, hI'⟩ := p
      exact ⟨h', tk, m₂, nOf a', e, F₂, N₂, ho, a', hm₂, rfl, hI'⟩
    | cont =>
      obtain ⟨h', tk, m₂, a', e, F₂, hm₂, N₂, ho, hI'⟩ := p
      exact ⟨h', tk, m₂, nOf a', e, F₂, N₂, ho, a', hm₂, rfl, hI'⟩
  · rintro m₁ news₁ h tk ⟨a, hma, rfl, hI⟩ F₁ N₁
    have e : m₁ = upd m₀ (vals a) := funext hma
    rw [e] at F₁
    exact done a h tk hI F₁ N₁
end
end Mine
end
-- S1
section
open PySem PySem.Builtin PySem.Builtin.Str PySem.StrLaws
namespace Mine
/-! str.split by a separator, as a function of lists -/
noncomputable def occL (y : List Nat) : Nat → Nat → List Nat → List Nat
  | 0, _, _ => []
  | n + 1, i, l => if l.take y.length = y then i :: occL y n (i + y.length) (l.drop y.length) else match l with
    | [] => []
    | _ :: r => occL y n (i + 1) r
noncomputable def splitL (y : List Nat) : Nat → List Nat → List Nat → List (List Nat)
  | 0, acc, l => [acc ++ l]
  | n + 1, acc, l => if l.take y.length = y then acc :: splitL y n [] (l.drop y.length) else match l with
    | [] => [acc]
    | c :: r => splitL y n (acc ++ [c]) r
theorem at_iff (x y : Str) (i : Nat) (hy : 1 ≤ y.length) : (i + y.length ≤ x.length ∧ subAt x y i = true) ↔ (x.cps.toList.drop i).take y.cps.toList.length = y.cps.toList := by
  rw [subAt_eq]
  have e : y.cps.toList.length = y.length := by simp [Str.length]
  rw [e]
  simp only [beq_iff_eq]
  constructor
  · exact fun h => h.2
  · intro h
    refine ⟨?_, h⟩
    have := congrArg List.length h
    rw [List.length_take, List.length_drop, e] at this
    have e2 : x.cps.toList.length = x.length := by simp [Str.length]
    omega
theorem occ_run (x y : Str) (hy : 1 ≤ y.length) : ∀ m i (st : Array Nat × Nat) n, i + m = x.length + 1 → st.1.size ≤ i → x.length + 1 ≤ n + max i st.2 →
    (forIn (List.range' i m) st (occBody x y x.length (x.length + 1))).run.fst.toList = st.1.toList ++ occL y.cps.toList n (max i st.2) (x.cps.toList.drop (max i st.2)) := by
  have e : y.cps.toList.length = y.length := by simp [Str.length]
  intro m
  induction m with
  | zero =>
    intro i st n hi hs hn
    have : x.cps.toList.drop (max i st.2) = [] := List.drop_eq_nil_of_le (by simp only [Array.length_toList]; unfold Str.length at hi; omega)
    rw [this]
    have : occL y.cps.toList n (max i st.2) [] = [] := by
      cases n with
      | zero => rfl
      | succ n =>
        have : ¬ (List.take y.cps.toList.length [] = y.cps.toList) := fun q => by
          have := congrArg List.length q
          rw [e] at this; simp at this; omega
        simp only [occL, if_neg this]
    rw [this]; simp
  | succ m ih =>
    intro i st n hi hs hn
    rw [List.range'_succ, List.forIn_cons]
    by_cases hf : st.2 ≤ i
    · have hmax : max i st.2 = i := by omega
      rw [hmax] at hn ⊢
      obtain ⟨n, rfl⟩ : ∃ k, n = k + 1 := ⟨n - 1, by omega⟩
      by_cases ha : (x.cps.toList.drop i).take y.cps.toList.length = y.cps.toList
      · have hb := (at_iff x y i hy).mpr ha
        have hc : ((st.fst.size < x.length + 1 ∧ st.snd ≤ i) ∧ i + y.length ≤ x.length) ∧ subAt x y i = true := ⟨⟨⟨by omega, hf⟩, hb.1⟩, hb.2⟩
        unfold occBody
        rw [if_pos hc]
        refine (ih (i + 1) (st.1.push i, i + y.length) n (by omega) (by simp; omega) (by simp; omega)).trans ?_
        have : max (i + 1) (i + y.length) = i + y.length := by omega
        have ha' := ha
        rw [e] at ha'
        simp only [this, occL, e, if_pos ha', Array.toList_push, List.append_assoc, List.cons_append, List.nil_append, List.drop_drop]
      · have hb : ¬ (i + y.length ≤ x.length ∧ subAt x y i = true) := fun q => ha ((at_iff x y i hy).mp q)
        have hc : ¬ (((st.fst.size < x.length + 1 ∧ st.snd ≤ i) ∧ i + y.length ≤ x.length) ∧ subAt x y i = true) := fun q => hb ⟨q.1.2, q.2⟩
        unfold occBody
        rw [if_neg hc]
        refine (ih (i + 1) st n (by omega) (by omega) (by omega)).trans ?_
        have : max (i + 1) st.2 = i + 1 := by omega
        rw [this]
        simp only [occL, if_neg ha]
        by_cases hl : i < x.length
        · have : x.cps.toList.drop i = x.cps.toList[i]'(by simpa [Str.length] using hl) :: x.cps.toList.drop (i + 1) := List.drop_eq_getElem_cons _
          rw [this]
        · have h1 : x.cps.toList.drop i = [] := List.drop_eq_nil_of_le (by simp only [Array.length_toList]; unfold Str.length at hl; omega)
          have h2 : x.cps.toList.drop (i + 1) = [] := List.drop_eq_nil_of_le (by simp only [Array.length_toList]; unfold Str.length at hl; omega)
          rw [h1, h2]
          cases n with
          | zero => rfl
          | succ n =>
            have : ¬ (List.take y.cps.toList.length [] = y.cps.toList) := fun q => by
              have := congrArg List.length q
              rw [e] at this; simp at this; omega
            simp only [occL, if_neg this]
    · have hc : ¬ (((st.fst.size < x.length + 1 ∧ st.snd ≤ i) ∧ i + y.length ≤ x.length) ∧ subAt x y i = true) := fun q => hf q.1.1.2
      unfold occBody
      rw [if_neg hc]
      have h1 : max i st.2 = st.2 := by omega
      have h2 : max (i + 1) st.2 = st.2 := by omega
      rw [h1] at hn ⊢
      refine (ih (i + 1) st n (by omega) (by omega) (by omega)).trans ?_
      rw [h2]
theorem occ_is (x y : Str) (hy : 1 ≤ y.length) : occurrences x y 0 x.length (x.length + 1) = occL y.cps.toList (x.length + 1) 0 x.cps.toList := by
  rw [occ_eq]
  have := occ_run x y hy (x.length + 1) 0 (#[], 0) (x.length + 1) (by omega) (by simp) (by simp)
  simpa using this
theorem parts_is (x y : Str) (hy : 1 ≤ y.length) : ∀ n a i, a ≤ i → i ≤ x.length → x.length + 1 ≤ n + i →
    partsFrom x y.length a (occL y.cps.toList n i (x.cps.toList.drop i)) = (splitL y.cps.toList n ((x.cps.toList.drop a).take (i - a)) (x.cps.toList.drop i)).map fun l => ⟨l.toArray⟩ := by
  have e : y.cps.toList.length = y.length := by simp [Str.length]
  have ex : x.cps.toList.length = x.length := by simp [Str.length]
  have sub : ∀ a b, strSub x a b = ⟨((x.cps.toList.drop a).take (b - a)).toArray⟩ := fun a b => mk_of_toList (strSub_toList x a b)
  intro n
  induction n with
  | zero => intro a i h1 h2 h3; omega
  | succ n ih =>
    intro a i h1 h2 h3
    by_cases ha : (x.cps.toList.drop i).take y.cps.toList.length = y.cps.toList
    · have hb := (at_iff x y i hy).mpr ha
      have ha' := ha
      rw [e] at ha'
      simp only [occL, splitL, e, if_pos ha', partsFrom, List.map_cons, List.drop_drop]
      rw [ih (i + y.length) (i + y.length) (Nat.le_refl _) hb.1 (by omega), sub]
      simp
    · simp only [occL, splitL, if_neg ha]
      by_cases hl : i < x.length
      · have hd : x.cps.toList.drop i = x.cps.toList[i]'(by rw [ex]; exact hl) :: x.cps.toList.drop (i + 1) := List.drop_eq_getElem_cons _
        rw [hd]
        dsimp only
        rw [ih a (i + 1) (by omega) (by omega) (by omega)]
        have : List.take (i + 1 - a) (x.cps.toList.drop a) = List.take (i - a) (x.cps.toList.drop a) ++ [x.cps.toList[i]'(by rw [ex]; exact hl)] := by
          have h4 : i + 1 - a = (i - a) + 1 := by omega
          rw [h4, List.take_add_one]
          have h5 : (x.cps.toList.drop a)[i - a]? = some (x.cps.toList[i]'(by rw [ex]; exact hl)) := by
            rw [List.getElem?_drop]
            have : a + (i - a) = i := by omega
            rw [this]; simp
          rw [h5]; rfl
        rw [this]
      · have : i = x.length := by omega
        subst this
        have hd : x.cps.toList.drop x.length = [] := List.drop_eq_nil_of_le (by rw [ex]; exact Nat.le_refl _)
        rw [hd]
        simp only [partsFrom, List.map_cons, List.map_nil, sub]
theorem split_is (x y : Str) (hy : 1 ≤ y.length) (hk : strKind y = 1) : Txt.split x y = (splitL y.cps.toList (x.length + 1) [] x.cps.toList).map fun l => ⟨l.toArray⟩ := by
  have key := parts_is x y hy (x.length + 1) 0 0 (Nat.le_refl _) (Nat.zero_le _) (by omega)
  rw [List.drop_zero, ← occ_is x y hy] at key
  have key' : partsFrom x y.length 0 (occurrences x y 0 x.length (x.length + 1)) = (splitL y.cps.toList (x.length + 1) [] x.cps.toList).map fun l => ⟨l.toArray⟩ := by
    rw [key]; rfl
  unfold Txt.split
  have one : ∀ h : occurrences x y 0 x.length (x.length + 1) = [], [x] = (splitL y.cps.toList (x.length + 1) [] x.cps.toList).map fun l => (⟨l.toArray⟩ : Str) := fun h => by
    rw [← key', h]
    show [x] = [strSub x 0 x.length]
    rw [sub_whole]
  split
  · rename_i hc
    apply one
    have hlt : x.length < y.length := by
      rw [Bool.or_eq_true, decide_eq_true_eq, decide_eq_true_eq] at hc
      rcases hc with h | h
      · exact h
      · exfalso
        rw [hk] at h
        unfold Builtin.Str.strKind at h
        split at h
        · omega
        · split at h <;> omega
    obtain ⟨f, hch⟩ := occ_chain x y (x.length + 1)
    cases ho : occurrences x y 0 x.length (x.length + 1) with
    | nil => rfl
    | cons c r =>
      rw [ho] at hch
      have := hch.2.1.1
      omega
  · split
    · rename_i h
      exact one (List.isEmpty_iff.mp h)
    · rw [partsBetween_eq]
      exact key'

theorem splitL_free {y : List Nat} (hy : y ≠ []) : ∀ (n : Nat) (acc l : List Nat), l.length + 1 ≤ n → (∀ i, (l.drop i).take y.length ≠ y) → splitL y n acc l = [acc ++ l] := by
  intro n
  induction n with
  | zero => intro acc l h; omega
  | succ n ih =>
    intro acc l h hno
    have h0 := hno 0
    rw [List.drop_zero] at h0
    unfold splitL
    rw [if_neg h0]
    cases l with
    | nil => simp
    | cons c r =>
      show splitL y n (acc ++ [c]) r = _
      rw [ih (acc ++ [c]) r (by simp at h; omega) fun i => by have := hno (i + 1); simpa using this]
      simp
theorem splitL_at {y : List Nat} (hy : y ≠ []) (v : List Nat) : ∀ (u : List Nat) (n : Nat) (acc : List Nat), (u ++ y ++ v).length + 1 ≤ n → (∀ i, i < u.length → ((u ++ y ++ v).drop i).take y.length ≠ y) →
    ∃ n', v.length + 1 ≤ n' ∧ splitL y n acc (u ++ y ++ v) = (acc ++ u) :: splitL y n' [] v := by
  intro u
  have hy1 : 1 ≤ y.length := by cases y with | nil => exact absurd rfl hy | cons => simp
  induction u with
  | nil =>
    intro n acc h _
    obtain ⟨n, rfl⟩ : ∃ k, n = k + 1 := ⟨n - 1, by omega⟩
    refine ⟨n, ?_, ?_⟩
    · simp only [List.nil_append, List.length_append] at h; omega
    · conv => lhs; unfold splitL
      have : List.take y.length ([] ++ y ++ v) = y := by simp
      rw [if_pos this]
      simp
  | cons c u ih =>
    intro n acc h hno
    obtain ⟨n, rfl⟩ : ∃ k, n = k + 1 := ⟨n - 1, by omega⟩
    have h0 := hno 0 (by simp)
    rw [List.drop_zero] at h0
    obtain ⟨n', hn', e⟩ := ih n (acc ++ [c]) (by simp at h ⊢; omega) fun i hi => by have := hno (i + 1) (by simp; omega); simpa using this
    refine ⟨n', hn', ?_⟩
    conv => lhs; unfold splitL
    rw [if_neg h0]
    show splitL y n (acc ++ [c]) (u ++ y ++ v) = _
    rw [e]; simp
/-- n dots, then b -/
theorem splitL_dots (b : List Nat) (hb : 46 ∉ b) : ∀ (n k : Nat), n + b.length + 1 ≤ k → splitL [46, 46, 46] k [] (List.replicate n 46 ++ b) = List.replicate (n / 3) [] ++ [List.replicate (n % 3) 46 ++ b] := by
  intro n
  induction n using Nat.strongRecOn with
  | _ n ih =>
  intro k hk
  by_cases h : 3 ≤ n
  · obtain ⟨m, rfl⟩ := Nat.exists_eq_add_of_le h
    have e : List.replicate (3 + m) 46 ++ b = [] ++ [46, 46, 46] ++ (List.replicate m 46 ++ b) := by
      rw [← List.replicate_append_replicate]; simp [List.replicate]
    obtain ⟨n', hn', e'⟩ := splitL_at (y := [46, 46, 46]) (by simp) (List.replicate m 46 ++ b) [] k [] (by simp; omega) (fun i hi => by simp at hi)
    rw [e, e', ih m (by omega) n' (by simpa using hn')]
    have h1 : (3 + m) / 3 = m / 3 + 1 := by omega
    have h2 : (3 + m) % 3 = m % 3 := by omega
    rw [h1, h2]; simp [List.replicate_succ]
  · have h1 : n / 3 = 0 := by omega
    have h2 : n % 3 = n := by omega
    rw [h1, h2]
    refine (splitL_free (by simp) k [] _ (by simp; omega) fun i q => ?_).trans (by simp)
    -- the third sign of the match lies in b
    have hlen := congrArg List.length q
    rw [List.length_take, List.length_drop] at hlen
    simp only [List.length_append, List.length_replicate, List.length_cons, List.length_nil] at hlen
    have h3 : ((List.replicate n 46 ++ b).drop i)[2]? = some 46 := by
      have := congrArg (fun l => l[2]?) q
      simpa using this
    rw [List.getElem?_drop, List.getElem?_append_right (by simp; omega)] at h3
    exact hb (List.mem_of_getElem? h3)
theorem splitL_rows : ∀ (rows : List (List Nat)) (k : Nat), (∀ r ∈ rows, 13 ∉ r) → ((rows.map (· ++ [13, 10])).flatten).length + 1 ≤ k → splitL [13, 10] k [] (rows.map (· ++ [13, 10])).flatten = rows ++ [[]] := by
  intro rows
  induction rows with
  | nil =>
    intro k _ hk
    exact splitL_free (by simp) k [] _ hk fun i q => by
      have := congrArg List.length q
      simp at this
  | cons r rows ih =>
    intro k hr hk
    have e : ((r :: rows).map (· ++ [13, 10])).flatten = r ++ [13, 10] ++ (rows.map (· ++ [13, 10])).flatten := by simp
    rw [e] at hk ⊢
    obtain ⟨n', hn', e'⟩ := splitL_at (y := [13, 10]) (by simp) ((rows.map (· ++ [13, 10])).flatten) r k [] hk fun i hi q => by
      have h3 : ((r ++ [13, 10] ++ (rows.map (· ++ [13, 10])).flatten).drop i)[0]? = some 13 := by
        have := congrArg (fun l => l[0]?) q
        simpa using this
      rw [List.getElem?_drop, Nat.add_zero, List.append_assoc, List.getElem?_append_left hi] at h3
      exact hr r (by simp) (List.mem_of_getElem? h3)
    rw [e', ih n' (fun r' h' => hr r' (by simp [h'])) hn']
    simp
end Mine
end
-- S2
section
open PySem PySem.Builtin PySem.Builtin.Str PySem.StrLaws
namespace Mine
/-- n dots ahead of b -/
noncomputable def rowT (n : Nat) (b : Str) : Str := ⟨(List.replicate n 46 ++ b.cps.toList).toArray⟩
theorem rowT_list (n : Nat) (b : Str) : (rowT n b).cps.toList = List.replicate n 46 ++ b.cps.toList := by simp [rowT]
theorem rowT_length (n : Nat) (b : Str) : (rowT n b).length = n + b.length := by simp [rowT, Str.length]
theorem rowT_zero (b : Str) : rowT 0 b = b := by simp [rowT]
theorem rowT_inj {n m : Nat} {b : Str} (h : rowT n b = rowT m b) : n = m := by
  have := congrArg Str.length h
  rw [rowT_length, rowT_length] at this; omega
theorem dots3 : (Str.ofString "...").cps.toList = [46, 46, 46] := by decide +kernel
theorem dots3_len : (Str.ofString "...").length = 3 := by decide +kernel
theorem dots3_kind : Builtin.Str.strKind (Str.ofString "...") = 1 := by decide +kernel
theorem crlf_list : (Str.ofString "\r\n").cps.toList = [13, 10] := by decide +kernel
theorem crlf_len : (Str.ofString "\r\n").length = 2 := by decide +kernel
theorem crlf_kind : Builtin.Str.strKind (Str.ofString "\r\n") = 1 := by decide +kernel
theorem split_row (n : Nat) (b : Str) (hb : 46 ∉ b.cps.toList) : Txt.split (rowT n b) (Str.ofString "...") = List.replicate (n / 3) Str.empty ++ [rowT (n % 3) b] := by
  rw [split_is _ _ (by rw [dots3_len]; decide) dots3_kind, dots3, rowT_list, splitL_dots b.cps.toList hb n _ (by rw [rowT_length]; simp [Str.length])]
  rw [List.map_append, List.map_replicate]
  rfl
theorem found_row (n : Nat) (b : Str) (hb : 46 ∉ b.cps.toList) : (occurrences (rowT n b) (Str.ofString "...") 0 (rowT n b).length 1).isEmpty = decide (n < 3) := by
  have key := found_iff (rowT n b) (Str.ofString "...")
  have at_ := fun i => at_iff (rowT n b) (Str.ofString "...") i (by rw [dots3_len]; decide)
  rw [dots3] at at_
  by_cases h : n < 3
  · rw [decide_eq_true h]
    cases q : (occurrences (rowT n b) (Str.ofString "...") 0 (rowT n b).length 1).isEmpty with
    | true => rfl
    | false =>
      obtain ⟨i, hi⟩ := key.mp (by rw [q]; rfl)
      have := (at_ i).mp hi
      rw [rowT_list] at this
      exfalso
      have hlen := congrArg List.length this
      rw [List.length_take, List.length_drop] at hlen
      simp only [List.length_append, List.length_replicate, List.length_cons, List.length_nil] at hlen
      have h3 : ((List.replicate n 46 ++ b.cps.toList).drop i)[2]? = some 46 := by
        have := congrArg (fun l => l[2]?) this
        simpa using this
      rw [List.getElem?_drop, List.getElem?_append_right (by simp; omega)] at h3
      exact hb (List.mem_of_getElem? h3)
  · rw [decide_eq_false h]
    have : (!(occurrences (rowT n b) (Str.ofString "...") 0 (rowT n b).length 1).isEmpty) = true := key.mpr ⟨0, (at_ 0).mpr (by
      rw [rowT_list, List.drop_zero]
      obtain ⟨m, rfl⟩ := Nat.exists_eq_add_of_le (Nat.le_of_not_lt h)
      rw [← List.replicate_append_replicate]; simp [List.replicate])⟩
    simpa using this
theorem ends_row (r : Nat) (b : Str) : Txt.endswith b (rowT r b) = (r == 0) := by
  unfold Txt.endswith
  rw [rowT_length]
  cases r with
  | zero =>
    rw [rowT_zero]
    have : subAt b b 0 = true := by
      rw [subAt_eq, List.drop_zero]
      have : b.length = b.cps.toList.length := by simp [Str.length]
      rw [this, List.take_length, beq_self_eq_true]
    simp [this]
  | succ r =>
    have : decide (0 + (r + 1 + b.length) ≤ b.length) = false := decide_eq_false (by omega)
    rw [this]; rfl
theorem row_ne (n : Nat) (b : Str) (h : 1 ≤ n) : (rowT n b == b) = false := by
  rw [beq_eq_false_iff_ne]
  intro e
  have := congrArg Str.length e
  rw [rowT_length] at this; omega
theorem occ_empty (x : Str) : occurrences x Str.empty 0 0 1 = [0] := by
  have : subAt x Str.empty 0 = true := by
    rw [subAt_eq]; simp [Str.empty, Str.length]
  rw [occ_eq]
  simp [occBody, Str.empty, Str.length] at this ⊢
  have h2 : subAt x { cps := #[] } 0 = true := this
  simp [List.range', h2]
theorem gives_find0 (x : Str) (t u v v' : Tok) : Gives («str.find» ⟨[.str x t, .str Str.empty u, .int 0 v, .int 0 v'], []⟩) (.int 0) := by
  show Gives (match occurrences x Str.empty (fromIndex x.length 0) (min (fromIndex x.length 0) x.length) 1 with | k :: _ => retInt k | [] => (do rule "str.find.not-found"; retInt (-1))) _
  have e1 : fromIndex x.length 0 = 0 := rfl
  have e2 : min 0 x.length = 0 := Nat.zero_min _
  rw [e1, e2, occ_empty]
  exact .of_eq rfl
theorem find0 {prog : Program} {w : World} {A : Around} {E : Value → Shared → Prop} {s : Shared} {x y : Str} {t u v v' : Tok} {i j : Int} {Q : Value → Shared → Prop} (hy : y = Str.empty) (hi : i = 0) (hj : j = 0) (hq : Q (.int 0 s.toks) { s with toks := s.toks + 1 }) :
    wpAny (model prog w) A (call (.builtin "str.find") [.str x t, .str y u, .int i v, .int j v']) Q E s := by
  subst hy hi hj
  exact call_gives F.slot_str_find (typeIs_str _ _ _) F.entry_str_find (F.args_str_find_4 _ _ _ _) (gives_find0 x t u v v') hq
end Mine
end
-- L3
section
open PySem PySem.W PySem.Calls PyProof.Rows
namespace Mine
section
variable {prog : Program} {w : World} {A : Around} {E : Value → Shared → Prop} {s : Shared} {h₀ : Heap} {L : Addr} {m : Str → Option Value} {news : List (Addr × Obj)}
theorem isList_led {D : Addr} {vs : List Value} {n : Nat} (N : News h₀ L s.heap news) (hm : (D, listObj vs n) ∈ news) : s.heap.IsList D vs.toArray := ⟨_, N.get hm, rfl, n, rfl⟩
theorem len_led {D : Addr} {vs : List Value} {n : Nat} {Q : Value → Shared → Prop} (N : News h₀ L s.heap news) (hm : (D, listObj vs n) ∈ news) (hsz : vs.length ≤ 1000000)
    (h : Q (.int vs.length (s.toks + 1)) { s with toks := s.toks + 1 + 1 }) : wpAny (model prog w) A (call (.builtin "len") [.ref D]) Q E s :=
  len_list (isList_led N hm) (by simp only [List.size_toArray]; omega) (by simpa using h)
theorem item_led {value slice : Expr} {D : Addr} {vs : List Value} {n : Nat} {k : Int} {u : Tok} {v : Value} {Q : Value → Shared → Prop} (N : News h₀ L s.heap news) (hm : (D, listObj vs n) ∈ news) (h0 : 0 ≤ k) (hfit : k < 1000000) (hx : vs[k.toNat]? = some v) (h : Q v s)
    (hs : subscripted slice false (.ref D) (.int k u) = operate [.ref D, .int k u] (getItem (.ref D) (.int k u)) := by with_unfolding_all rfl) (hg : ∀ r, letTemporaryGo value (.ref D) r = pure () := by intro _; with_unfolding_all rfl) :
    wpAny (model prog w) A (subscriptTail value slice (.ref D) (.int k u)) Q E s :=
  item_listL (isList_led N hm) h0 (by omega) hx h hs hg
theorem last_led {value slice : Expr} {D : Addr} {vs : List Value} {n : Nat} {u : Tok} {v : Value} {Q : Value → Shared → Prop} (N : News h₀ L s.heap news) (hm : (D, listObj (vs ++ [v]) n) ∈ news) (hsz : vs.length ≤ 1000000) (h : Q v s)
    (hs : subscripted slice false (.ref D) (.int (-1) u) = operate [.ref D, .int (-1) u] (getItem (.ref D) (.int (-1) u)) := by with_unfolding_all rfl) (hg : ∀ r, letTemporaryGo value (.ref D) r = pure () := by intro _; with_unfolding_all rfl) :
    wpAny (model prog w) A (subscriptTail value slice (.ref D) (.int (-1) u)) Q E s :=
  subscriptTail_builtin (isList_led N hm).typeIs slot_list_getitem.lookup (wpAny_getItem_list_neg (k := -1) (x := v) (isList_led N hm) (by decide) (by simp; omega) (by decide) (by
    have : (-1 + (((vs ++ [v]).toArray.size : Nat) : Int)).toNat = vs.length := by simp; omega
    rw [this]; simp) h) hs hg
theorem dellast_led {pre post : List (Addr × Obj)} {D : Addr} {vs : List Value} {n : Nat} {v : Value} {u : Tok} {Q : Unit → Shared → Prop} (F : Fr h₀ L s.heap m) (N : News h₀ L s.heap (pre ++ (D, listObj (vs ++ [v]) n) :: post)) (h1 : Off D pre) (h2 : Off D post)
    (hsz : vs.length ≤ 1000000) (h : ∀ h' n', Fr h₀ L h' m → News h₀ L h' (pre ++ (D, listObj vs n') :: post) → Q () { s with heap := h' }) : wpAny (model prog w) A (delItem (.ref D) (.int (-1) u)) Q E s := by
  refine del_led (k := vs.length) F N h1 h2 (by decide) ?_ ?_ fun h' n' F' N' => ?_
  · unfold seqIndex?; simp; omega
  · have : sizeLine = 16777216 := by decide
    simp only [List.length_append, List.length_cons, List.length_nil]; omega
  · have e : (vs ++ [v]).eraseIdx vs.length = vs := by simp [List.eraseIdx_append_of_length_le]
    rw [e] at N'
    exact h h' n' F' N'
theorem For_F {env : Env} {m : Str → Option Value} {Q : Flow → Shared → Prop} {x : Str} {px pos : Pos} {iter : Expr} {body : List Stmt} (_F : Fr h₀ env.locals s.heap m) (hx : env.kindOf x = some .local)
    (hp : (env.scope.kind == .class || (env.scope.kind == .module && env.locals != env.globals)) = false)
    (h : wpAny (model prog w) A (eval iter env) (fun xv s₁ => wpAny (model prog w) A (pyIter xv) (fun it s₂ => LoopAtV prog w A h₀ env x body Q E it s₂) E s₁) E s)
    (hs : ∀ x, foldedSetIterable iter env x = pure x := by intro _; rfl)
    (hE : PassesOwn (model prog w) A env E := by passes_own) :
    wpAny (model prog w) A (exec (.For (.Name x px) iter body [] pos) env) Q E s := For_invV h₀ hx hp h hs hE
/-- the pieces of n dots ahead of b, by three dots -/
theorem split_ell {q r : Nat} {b x : Str} {t u : Tok} {Q : Value → Shared → Prop} (F : Fr h₀ L s.heap m) (N : News h₀ L s.heap news) (hsp : Txt.split x (Str.ofString "...") = List.replicate (q + 1) Str.empty ++ [rowT r b]) (hsz : x.length + 2 ≤ 16777216)
    (h : ∀ D t0 vs t h' k, vs.length = q → (∀ v ∈ vs, ∃ t, v = .str Str.empty t) → Off D news → Fr h₀ L h' m → News h₀ L h' ((D, listObj (.str Str.empty t0 :: vs ++ [.str (rowT r b) t]) 0) :: news) → Q (.ref D) { s with heap := h', toks := k }) :
    wpAny (model prog w) A (call (.builtin "str.split") [.str x t, .str (Str.ofString "...") u]) Q E s := by
  refine split_led F N (by decide +kernel) hsp hsz fun D l h' k e sa _ _ o F' N' => ?_
  have hl : ∃ t0 l1 t, l = (Str.empty, t0) :: (l1 ++ [(rowT r b, t)]) ∧ l1.length = q ∧ ∀ p ∈ l1, p.1 = Str.empty := by
    cases l with
    | nil => simp [List.replicate_succ] at e
    | cons p l =>
      rw [List.replicate_succ, List.map_cons, List.cons_append] at e
      injection e with e1 e2
      have hlen := congrArg List.length e2
      simp only [List.length_map, List.length_append, List.length_replicate, List.length_cons, List.length_nil] at hlen
      obtain ⟨l1, p2, rfl⟩ : ∃ l1 p2, l = l1 ++ [p2] := by
        have hne : l ≠ [] := fun h => by rw [h] at hlen; simp at hlen
        exact ⟨l.dropLast, l.getLast hne, (List.dropLast_concat_getLast hne).symm⟩
      rw [List.map_append] at e2
      have e3 := List.append_inj e2 (by simp at hlen ⊢; omega)
      refine ⟨p.2, l1, p2.2, ?_, by simp at hlen; omega, fun z hz => ?_⟩
      · have : p2.1 = rowT r b := by simpa using e3.2
        rw [← this, ← e1]
      · have : z.1 ∈ List.replicate q Str.empty := by rw [← e3.1]; exact List.mem_map_of_mem hz
        exact List.eq_of_mem_replicate this
  obtain ⟨t0, l1, t', rfl, hq, hz⟩ := hl
  refine h D t0 (strValues l1) t' h' k (by simpa [strValues] using hq) (fun v hv => ?_) o F' (by simpa [strValues] using N')
  obtain ⟨p, hp, rfl⟩ := List.mem_map.mp hv
  exact ⟨p.2, by rw [hz p hp]⟩
end
end Mine
end
-- M1
section
open PySem
namespace Mine
theorem crlf_free {l : List Nat} : ∀ (r : List Nat) (b : Bool), r ≠ [] → 10 ∉ r → 13 ∉ r → crlfF b (r ++ l) = r ++ crlfF false l
  | [], _, h, _, _ => absurd rfl h
  | c :: r, b, _, h1, h2 => by
    simp only [List.mem_cons, not_or] at h1 h2
    rw [List.cons_append, crlfF, if_neg (fun e => h1.1 e.symm), if_neg (fun e => h2.1 e.symm)]
    cases r with
    | nil => rfl
    | cons d r => rw [crlf_free (d :: r) false (by simp) h1.2 h2.2]; rfl
noncomputable def EndOk (e : List Nat) : Prop := e = [10] ∨ e = [13] ∨ e = [13, 10]
theorem crlf_mail : ∀ (rows : List (List Nat × List Nat)) (b : Bool), (∀ p ∈ rows, p.1 ≠ [] ∧ 10 ∉ p.1 ∧ 13 ∉ p.1 ∧ EndOk p.2) → crlfF b (rows.map fun p => p.1 ++ p.2).flatten = (rows.map fun p => p.1 ++ [13, 10]).flatten
  | [], b, _ => by simp [crlfF]
  | (r, e) :: rows, b, h => by
    obtain ⟨h1, h2, h3, h4⟩ := h (r, e) (List.mem_cons_self ..)
    have ih := fun b => crlf_mail rows b fun p hp => h p (List.mem_cons_of_mem _ hp)
    simp only [List.map_cons, List.flatten_cons, List.append_assoc]
    rw [crlf_free r b h1 h2 h3]
    congr 1
    rcases h4 with rfl | rfl | rfl
    · simp [crlfF, ih]
    · simp [crlfF, ih]
    · simp [crlfF, ih]
theorem dots_free {l : List Nat} : ∀ (r : List Nat), 10 ∉ r → dotsF false (r ++ 13 :: 10 :: l) = r ++ 13 :: 10 :: dotsF true l
  | [], _ => by simp [dotsF]
  | c :: r, h => by
    simp only [List.mem_cons, not_or] at h
    have hc : (c == 10) = false := by simpa using fun e => h.1 e.symm
    rw [List.cons_append, dotsF, if_neg (by simp), hc, dots_free r h.2]
    rfl
theorem dots_rows : ∀ (rows : List (List Nat)), (∀ r ∈ rows, 10 ∉ r) → dotsF true (rows.map fun r => 46 :: (r ++ [13, 10])).flatten = (rows.map fun r => 46 :: 46 :: (r ++ [13, 10])).flatten
  | [], _ => by simp [dotsF]
  | r :: rows, h => by
    have ih := dots_rows rows fun p hp => h p (List.mem_cons_of_mem _ hp)
    simp only [List.map_cons, List.flatten_cons, List.cons_append, List.append_assoc]
    rw [dotsF, if_pos (by simp)]
    congr 2
    have := dots_free (l := (rows.map fun r => 46 :: (r ++ [13, 10])).flatten) r (h r (List.mem_cons_self ..))
    simp only [List.cons_append, List.nil_append] at this ⊢
    rw [this, ih]
/-- the mail: rows of n dots ahead of b, each with \r\n -/
noncomputable def mailT (ns : List Nat) (b : Str) : Str := ⟨((ns.map fun n => List.replicate n 46 ++ b.cps.toList ++ [13, 10]).flatten).toArray⟩
/-- the first mail, with drawn ends -/
noncomputable def mail0 (ps : List (Nat × Str)) (b : Str) : Str := ⟨((ps.map fun p => (List.replicate p.1 46 ++ b.cps.toList) ++ p.2.cps.toList).flatten).toArray⟩
theorem quote_rows (ns : List Nat) (b : Str) (h10 : 10 ∉ b.cps.toList) (hn : ∀ n ∈ ns, 1 ≤ n) : dotsF true (ns.map fun n => List.replicate n 46 ++ b.cps.toList ++ [13, 10]).flatten = ((ns.map (· + 1)).map fun n => List.replicate n 46 ++ b.cps.toList ++ [13, 10]).flatten := by
  have e1 : (ns.map fun n => List.replicate n 46 ++ b.cps.toList ++ [13, 10]) = (ns.map fun n => List.replicate (n - 1) 46 ++ b.cps.toList).map fun r => 46 :: (r ++ [13, 10]) := by
    rw [List.map_map]
    refine List.map_congr_left fun n h => ?_
    obtain ⟨k, rfl⟩ : ∃ k, n = k + 1 := ⟨n - 1, by have := hn n h; omega⟩
    simp [List.replicate_succ]
  have e2 : ((ns.map (· + 1)).map fun n => List.replicate n 46 ++ b.cps.toList ++ [13, 10]) = (ns.map fun n => List.replicate (n - 1) 46 ++ b.cps.toList).map fun r => 46 :: 46 :: (r ++ [13, 10]) := by
    rw [List.map_map, List.map_map]
    refine List.map_congr_left fun n h => ?_
    obtain ⟨k, rfl⟩ : ∃ k, n = k + 1 := ⟨n - 1, by have := hn n h; omega⟩
    simp [List.replicate_succ]
  rw [e1, e2]
  refine dots_rows _ fun r hr => ?_
  obtain ⟨n, _, rfl⟩ := List.mem_map.mp hr
  simp [h10]
theorem quote_first (ps : List (Nat × Str)) (b : Str) (h10 : 10 ∉ b.cps.toList) (h13 : 13 ∉ b.cps.toList) (hn : ∀ p ∈ ps, 1 ≤ p.1 ∧ EndOk p.2.cps.toList) : dotsT (crlfT (mail0 ps b)) = mailT (ps.map (·.1 + 1)) b := by
  have e : crlfF false (ps.map fun p => (List.replicate p.1 46 ++ b.cps.toList) ++ p.2.cps.toList).flatten = ((ps.map (·.1)).map fun n => List.replicate n 46 ++ b.cps.toList ++ [13, 10]).flatten := by
    have := crlf_mail (ps.map fun p => (List.replicate p.1 46 ++ b.cps.toList, p.2.cps.toList)) false (fun q hq => by
      obtain ⟨p, hp, rfl⟩ := List.mem_map.mp hq
      obtain ⟨h1, h2⟩ := hn p hp
      refine ⟨?_, by simp [h10], by simp [h13], h2⟩
      obtain ⟨k, hk⟩ : ∃ k, p.1 = k + 1 := ⟨p.1 - 1, by omega⟩
      simp [hk, List.replicate_succ])
    simpa [List.map_map, Function.comp_def] using this
  have q := quote_rows (ps.map (·.1)) b h10 (fun n h => by obtain ⟨p, hp, rfl⟩ := List.mem_map.mp h; exact (hn p hp).1)
  simp only [dotsT, crlfT, mail0, mailT, e]
  rw [q]
  simp [List.map_map, Function.comp_def]
theorem quote_next (ns : List Nat) (b : Str) (h10 : 10 ∉ b.cps.toList) (h13 : 13 ∉ b.cps.toList) (hn : ∀ n ∈ ns, 1 ≤ n) : dotsT (crlfT (mailT ns b)) = mailT (ns.map (· + 1)) b := by
  have := quote_first (ns.map fun n => (n, Str.ofString "\r\n")) b h10 h13 (fun p hp => by
    obtain ⟨n, h, rfl⟩ := List.mem_map.mp hp
    exact ⟨hn n h, .inr (.inr crlf_list)⟩)
  have e : mail0 (ns.map fun n => (n, Str.ofString "\r\n")) b = mailT ns b := by
    simp only [mail0, mailT, List.map_map, Function.comp_def, crlf_list]
  rw [e] at this
  simpa [List.map_map, Function.comp_def] using this
theorem split_mail (ns : List Nat) (b : Str) (h13 : 13 ∉ b.cps.toList) : Txt.split (mailT ns b) (Str.ofString "\r\n") = ns.map (rowT · b) ++ [Str.empty] := by
  rw [split_is _ _ (by rw [crlf_len]; decide) crlf_kind, crlf_list]
  have e : (mailT ns b).cps.toList = ((ns.map fun n => List.replicate n 46 ++ b.cps.toList).map (· ++ [13, 10])).flatten := by
    simp [mailT, List.map_map, Function.comp_def]
  rw [e, splitL_rows _ _ (fun r hr => by obtain ⟨n, _, rfl⟩ := List.mem_map.mp hr; simp [h13]) (by rw [← e]; simp [Str.length])]
  simp [rowT, List.map_map, Function.comp_def]
  rfl
end Mine
end
-- TR
section
open PySem PySem.W PySem.Calls PyProof.Rows
namespace Mine
section
variable {prog : Program} {w : World} {A A₀ : Around} {base h₀ : Heap} {s : Shared} {L : Addr} {m : Str → Option Value} {news : List (Addr × Obj)} {K : Frag} {p : Program} {loose : List Str} {mg mb : Str → Option Value}
/-- a def of the fragment is entered; the top's facts are those that only read -/
theorem code_defR {env : Env} {outer : List Env} {R : Result → Shared → Prop} {name qual : Str} {params : Arguments} {body : List Stmt} {scope : Scope} {dV kV doc pm cdv ct oc : Value} {an od : Option Addr} {osl : Array (Option Value)} {f : Addr} {args : Args} {binds : List (Str × Value)}
    (B : Below A₀ base outer h₀) (F : Fr h₀ L s.heap m) (X₀ : K.In h₀) (N : News h₀ L s.heap news) (T : TopRead p loose mg mb h₀) (hA : A.frames = some (env :: outer)) (hf : env.frame = some L) (hke : env.scope.kind = .function)
    (ho : K.lookup f = some ⟨oc, od, .func (fnOf name qual params body scope dV kV doc pm an cdv ct), osl⟩) (hcd : codeIn K cdv qual = true) (hroom : A.depth < recursionLimit)
    (hbind : BindsTo s (fnOf name qual params body scope dV kV doc pm an cdv ct) args binds) (hloc : ∀ y ∈ binds, scope.names.lookup y.1 = some .local)
    (h : ∀ g L' h₁, Fr h₀ L g m → Fr g L' h₁ (fun y => binds.reverse.lookup y) → News g L' h₁ news → Below A base (env :: outer) g → K.In g → TopRead p loose mg mb g →
      wpAny (model prog w) (A.deeper (envOf qual scope L' f cdv)) (execs body (envOf qual scope L' f cdv))
        (fun fl s' => LeaveK h₀ L m g R (match fl with | .ret v => v | _ => .none) s')
        (fun e s' => wpAny (model prog w) (A.deeper (envOf qual scope L' f cdv)) (leaving (envOf qual scope L' f cdv) e) (fun _ s'' => R (.error e) s'') (fun e' s'' => R (.error e') s'') s')
        { s with heap := h₁, toks := s.toks + binds.length })
    (hco : scope.isCoroutine = false) (hgen : scope.isGenerator = false) (hk : scope.kind = .function)
    (hcell : ∀ x ∈ scope.names, x.2 ≠ .cell) : codeAny (model prog w) A (.call (.ref f) args) R s :=
  callX_plain (cl := []) B F N T.nolimit hA hf hke ((X₀.keeps F.keep) _ _ ho) rfl (codeRec_of (X₀.keeps F.keep) hcd) hroom hbind hloc (fun g L' h₁ FG F' N' B' st _ => h g L' h₁ FG F' N' B' (X₀.keeps st) (T.keeps st)) hcell hco hgen hk
end
/-- a call's claim, with the top's facts that only read -/
noncomputable abbrev CbR (prog : Program) (w : World) (K : Frag) (p : Program) (loose : List Str) (mg mb : Str → Option Value) (f : Addr) (news : List (Addr × Obj)) (pre : Prop) (vs : List Value) (R : Tok → Value) : Prop :=
  ∀ (dp un : Nat) (gd : Option (List Code)) (cn : Str) (cs : Scope) (a : Addr) (ccd : Value) (cl : List (Str × Addr)) (outer : List Env) (A₀ : Around) (base h₀ : Heap) (L : Addr) (m : Str → Option Value) (s : Shared) (Q E : Value → Shared → Prop),
    Below A₀ base outer h₀ → Fr h₀ L s.heap m → K.In h₀ → News h₀ L s.heap news → TopRead p loose mg mb h₀ → cs.kind = .function → pre → dp + 1 < recursionLimit → un + 8 < cLine →
      (∀ (t : Tok) (h' : Heap) (tk' : Nat), Fr h₀ L h' m → News h₀ L h' news → Q (R t) { s with heap := h', toks := tk' }) →
      wpAny (model prog w) (ktrTop dp un gd cn cs L a ccd cl outer) (call (.ref f) vs) Q E s
end Mine
end
-- TC
section
open PySem PySem.W PySem.Calls PyProof.Rows
namespace Mine
section
variable {prog : Program} {w : World} {A A₀ : Around} {base h₀ : Heap} {s : Shared} {L : Addr} {m : Str → Option Value} {news : List (Addr × Obj)} {K : Frag} {p : Program} {loose : List Str} {mg mb : Str → Option Value}
/-- a def of the fragment with cells is entered -/
theorem code_defCR {env : Env} {outer : List Env} {R : Result → Shared → Prop} {name qual : Str} {params : Arguments} {body : List Stmt} {scope : Scope} {dV kV doc pm cdv ct oc : Value} {an od : Option Addr} {osl : Array (Option Value)} {f : Addr} {args : Args} {binds : List (Str × Value)}
    (B : Below A₀ base outer h₀) (F : Fr h₀ L s.heap m) (X₀ : K.In h₀) (N : News h₀ L s.heap news) (T : TopRead p loose mg mb h₀) (hA : A.frames = some (env :: outer)) (hf : env.frame = some L) (hke : env.scope.kind = .function)
    (ho : K.lookup f = some ⟨oc, od, .func (fnOf name qual params body scope dV kV doc pm an cdv ct), osl⟩) (hcd : codeIn K cdv qual = true) (hroom : A.depth < recursionLimit)
    (hbind : BindsTo s (fnOf name qual params body scope dV kV doc pm an cdv ct) args binds) (hkind : (binds.all fun y => scope.names.lookup y.1 == some .local || scope.names.lookup y.1 == some .cell) = true)
    (hnd : ((cellsFrom 0 scope.names []).map (·.1)).Nodup)
    (h : ∀ g L' h₁ tk cells, Fr h₀ L g m → Fr g L' h₁ (bindL (envOfC qual scope L' f cdv).kindOf binds fun _ => none) → News g L' h₁ (cells ++ news) →
      CellsAre (bindC (envOfC qual scope L' f cdv).kindOf binds fun _ => none) (cellsFrom (L' + 1) scope.names []) cells → Below A base (env :: outer) g → K.In g → TopRead p loose mg mb g → (∀ p ∈ news, p.1 < L') →
      wpAny (model prog w) (A.deeper (envOfC qual scope L' f cdv)) (execs body (envOfC qual scope L' f cdv))
        (fun fl s' => LeaveK h₀ L m g R (match fl with | .ret v => v | _ => .none) s')
        (fun e s' => wpAny (model prog w) (A.deeper (envOfC qual scope L' f cdv)) (leaving (envOfC qual scope L' f cdv) e) (fun _ s'' => R (.error e) s'') (fun e' s'' => R (.error e') s'') s')
        { s with heap := h₁, toks := tk })
    (hco : scope.isCoroutine = false) (hgen : scope.isGenerator = false) (hk : scope.kind = .function) : codeAny (model prog w) A (.call (.ref f) args) R s :=
  callX_cells B F N T.nolimit hA hf hke ((X₀.keeps F.keep) _ _ ho) rfl (codeRec_of (X₀.keeps F.keep) hcd) hroom hbind (kindsX hkind) hnd (fun g L' h₁ tk cells FG F' N' Y B' st l => h g L' h₁ tk cells FG F' N' Y B' (X₀.keeps st) (T.keeps st) l) hco hgen hk
end
end Mine
end
open PySem PySem.W PySem.Calls PyProof.Rows Mine
local macro_rules | `(tactic| walk_at "cell_enterR") => `(tactic| ((refine' code_defR ?k1 ?k2 ?k3 ?k4 ?k5 ?kA ?kF ?kK ?k6 ?k7 ?k8 ?k9 ?kB ?_ ?c2 ?c3 ?c4 ?c5; (case kA | kF => exact rfl); (case kK => assumption); (case k1 | k2 | k3 | k4 | k5 => k_asm); (case k6 | k7 => k_is); (case k8 => ktr_room); (case k9 => exact BindsTo.of_eq rfl); (case c5 => decide); (case kB => exact locs rfl); (case c2 | c3 | c4 => exact rfl); k_whole; intro g' L' h' FG' F' N' B' X' T'; (try dsimp only); (try k_lift B'); (try k_fold))))
local macro_rules | `(tactic| walk_at "cell_enterC") => `(tactic| ((refine' code_defCR ?k1 ?k2 ?k3 ?k4 ?k5 ?kA ?kF ?kK ?k6 ?k7 ?k8 ?k9 ?kB ?kD ?_ ?c2 ?c3 ?c4; (case kA | kF => exact rfl); (case kK => assumption); (case k1 | k2 | k3 | k4 | k5 => k_asm); (case k6 | k7 => k_is); (case k8 => ktr_room); (case k9 => exact BindsTo.of_eq rfl); (case kB => exact rfl); (case kD => decide +kernel); (case c2 | c3 | c4 => exact rfl); k_whole; intro g' L' h' tk' cells' FG' F' N' Y' B' X' T' l1; (try k_lt l1); k_cells Y'; (try simp only [List.cons_append, List.nil_append] at N'); (try dsimp only); (try k_lift B'); (try k_fold))))
-- Q2
section
open PySem PySem.W PyProof.Rows
set_option maxRecDepth 100000
set_option maxHeartbeats 8000000
namespace Mine
theorem pat1 {P : Params} {h : Heap} (K : (hd.heap_39 P).In h) : PatAt h 69 68 C1 :=
  ⟨⟨_, _, K 69 _ rfl, rfl, rfl, rfl, rfl, rfl, rfl⟩, ⟨_, _, _, K 68 _ rfl, rfl, by decide +kernel⟩⟩
theorem pat2 {P : Params} {h : Heap} (K : (hd.heap_39 P).In h) : PatAt h 64 63 C2 :=
  ⟨⟨_, _, K 64 _ rfl, rfl, rfl, rfl, rfl, rfl, rfl⟩, ⟨_, _, _, K 63 _ rfl, rfl, by decide +kernel⟩⟩
theorem in_fr {P : Params} {g h : Heap} {L : Addr} {m : Str → Option Value} (K : (hd.heap_39 P).In g) (F : Fr g L h m) : (hd.heap_39 P).In h := fun a o e => F.keep a o (K a o e)
theorem Fr.ext {h₀ h h' : Heap} {L : Addr} {m : Str → Option Value} (F : Fr h₀ L h m) (hk : ∀ b o, h.get? b = some o → h'.get? b = some o) : Fr h₀ L h' m := ⟨F.ns.keeps hk, fun b o e => hk b o (F.keep b o e), F.above⟩
theorem News.ext {h₀ h h' : Heap} {L : Addr} {n : List (Addr × Obj)} (N : News h₀ L h n) (hk : ∀ b o, h.get? b = some o → h'.get? b = some o) : News h₀ L h' n := fun p hp => ⟨hk _ _ (N p hp).1, (N p hp).2⟩
section
variable {M : Model} {A : Around} {E : Value → Shared → Prop} {s : Shared}
theorem getMethod_re {P T : Addr} {C : Array Nat} {pl : Sem Bool} {Q : Value × List Value → Shared → Prop} (p : PatAt s.heap P T C) (h : Q (.builtin "re.Pattern.sub", [.ref P]) s) :
    wpAny M A (getMethod (.ref P) "sub" pl) Q E s :=
  getMethod_builtin (T := "re.Pattern") (let ⟨o, _, a, b, _⟩ := p.pat; ⟨o, a, b⟩) plainAttrs_re slot_re_sub type_re_sub (fun a e => by cases e; exact (let ⟨o, _, x, _, d, _⟩ := p.pat; ⟨o, x, d⟩)) h
end

theorem size_le_len {l : List Nat} {n : Nat} (h : l.length ≤ n) : l.toArray.size ≤ n := by simpa using h
theorem crlfT_size (d : Str) : (crlfT d).cps.size ≤ 2 * d.cps.size := by
  have := crlfF_length d.cps.toList false
  simpa [crlfT] using this
theorem str_eta (l : List Nat) (x : Str) (h : l = x.cps.toList) : (⟨l.toArray⟩ : Str) = x := by subst h; rfl
section
variable {prog : Program} {w : World} {A : Around} {E : Value → Shared → Prop} {s : Shared}
theorem call_sub1 {x : Str} {tr tx : Tok} {h₀ : Heap} {L : Addr} {m : Str → Option Value} {news : List (Addr × Obj)} {P : Params} {Q : Value → Shared → Prop} (X : (hd.heap_39 P).In h₀) (F : Fr h₀ L s.heap m) (N : News h₀ L s.heap news) (hsz : x.cps.size ≤ 10000)
    (hQ : ∀ t h' tk, Fr h₀ L h' m → News h₀ L h' news → Q (.str (crlfT x) t) { s with heap := h', toks := tk }) :
    wpAny (model prog w) A (call (.builtin "re.Pattern.sub") [.ref 69, .str (Str.ofString "\r\n") tr, .str x tx]) Q E s := by
  have h20 : (2 : Nat) ^ 20 = 1048576 := by decide
  have h22 : (2 : Nat) ^ 22 = 4194304 := by decide
  have e : (Str.ofString "\r\n").cps = #[13, 10] := by decide +kernel
  refine call_sub (res := res1 x.cps) (pat1 (in_fr X F)) (by rw [e]; exact finds1 x (by omega)) (by omega) ?_ (by rw [e]; decide +kernel) ?_
  · rw [res1_zero]
    have := crlfT_size x
    simp only [Array.length_toList]; omega
  · intro t h' tk hk
    rw [str_eta _ (crlfT x) (res1_zero x)]
    exact hQ t h' tk (Fr.ext F hk) (News.ext N hk)
theorem call_sub2 {x : Str} {tr tx : Tok} {h₀ : Heap} {L : Addr} {m : Str → Option Value} {news : List (Addr × Obj)} {P : Params} {Q : Value → Shared → Prop} (X : (hd.heap_39 P).In h₀) (F : Fr h₀ L s.heap m) (N : News h₀ L s.heap news) (hsz : x.cps.size ≤ 20000)
    (hQ : ∀ t h' tk, Fr h₀ L h' m → News h₀ L h' news → Q (.str (dotsT x) t) { s with heap := h', toks := tk }) :
    wpAny (model prog w) A (call (.builtin "re.Pattern.sub") [.ref 64, .str (Str.ofString "..") tr, .str x tx]) Q E s := by
  have h20 : (2 : Nat) ^ 20 = 1048576 := by decide
  have h22 : (2 : Nat) ^ 22 = 4194304 := by decide
  have e : (Str.ofString "..").cps = #[46, 46] := by decide +kernel
  refine call_sub (res := res2 x.cps) (pat2 (in_fr X F)) (by rw [e]; exact finds2 x (by omega)) (by omega) ?_ (by rw [e]; decide +kernel) ?_
  · rw [res2_zero]
    have := dotsF_length x.cps.toList true
    have e2 : (dotsT x).cps.toList.length = (dotsF true x.cps.toList).length := by simp [dotsT]
    rw [e2]
    have e3 : x.cps.toList.length = x.cps.size := by simp
    omega
  · intro t h' tk hk
    rw [str_eta _ (dotsT x) (res2_zero x)]
    exact hQ t h' tk (Fr.ext F hk) (News.ext N hk)
end
local macro_rules | `(tactic| walk_at "getMethod ref") => `(tactic| ((with_reducible show wpAny _ _ (getMethod (Value.ref 64) _ _) _ _ _); refine getMethod_re (pat2 (in_fr (by assumption) (by assumption))) ?_; dsimp only))
local macro_rules | `(tactic| walk_at "getMethod ref") => `(tactic| ((with_reducible show wpAny _ _ (getMethod (Value.ref 69) _ _) _ _ _); refine getMethod_re (pat1 (in_fr (by assumption) (by assumption))) ?_; dsimp only))
local macro_rules | `(tactic| walk_at "call builtin:re.Pattern.sub") => `(tactic| (refine call_sub1 (by assumption) (by assumption) (by assumption) (by assumption) ?_; intro t' h' tk' F' N'; (try dsimp only)))
local macro_rules | `(tactic| walk_at "call builtin:re.Pattern.sub") => `(tactic| (refine call_sub2 (by assumption) (by assumption) (by assumption) (by have := crlfT_size; refine Nat.le_trans (crlfT_size _) (by omega)) ?_; intro t' h' tk' F' N'; (try dsimp only)))
theorem quote_ct (w : World) (mg mb : Str → Option Value) (d : Str) (tk : Tok) (news : List (Addr × Obj)) :
   CbR Challenge.rw_pg0093_01.row.prog w (hd.heap_39 w.params) hd.view_39 (looseW hd.view_39 [Str.ofString "_twin_re_1", Str.ofString "_twin_re_2"]) mg mb 76 news (d.cps.size ≤ 10000) [.str d tk] (fun t => .str (dotsT (crlfT d)) t) := by
  k_fill
  dsimp only [CbR]
  intros
  rename_i hret
  rename d.cps.size ≤ 10000 => hlen
  refine wpAny_call ?_
  k_dflt (walk_at "cell_enterR")
  k_steps
  exact hret _ _ _ (by assumption) (by assumption)
end Mine
end
-- E3
section
open PySem PySem.W PyProof.Rows
set_option maxRecDepth 100000
set_option maxHeartbeats 8000000
namespace Mine
local macro_rules | `(tactic| walk_at "call builtin:str.split") => `(tactic| (refine split_ell (by assumption) (by assumption) (by assumption) (by omega) ?_; intro D' t0' vs' t' h' k' e' a' o' F' N'; (try dsimp only)))
local macro_rules | `(tactic| walk_at "call builtin:len") => `(tactic| ((with_reducible show wpAny _ _ (call (Value.builtin "len") [Value.ref _]) _ _ _); refine len_led (by assumption) (by k_mem) (by simp; omega) ?_; (try simp only [List.length_cons, List.length_append, List.length_nil]); (try dsimp only)))
local macro_rules | `(tactic| walk_at "subscriptTail") => `(tactic| ((with_reducible show wpAny _ _ (subscriptTail _ _ (Value.ref _) (Value.int (-1) _)) _ _ _); refine last_led (vs := _ :: _) (by assumption) (by k_mem) (by simp; omega) ?_; (try dsimp only)))
local macro_rules | `(tactic| walk_at "subscriptTail Name Constant ref int") => `(tactic| (refine item_led (by assumption) (by k_mem) (by decide) (by decide) rfl ?_; (try dsimp only)))
local macro_rules | `(tactic| walk_at "delItem ref int") => `(tactic| ((rename Fr _ _ _ _ => F9); (rename News _ _ _ _ => N9); refine dellast_led (pre := [_]) (vs := _ :: _) F9 N9 (fun p hp => by rename _ ∧ AllLt _ _ => hl; cases List.mem_singleton.mp hp; exact Nat.ne_of_gt hl.1) (by assumption) (by simp; omega) ?_; clear F9 N9; intro h' n' F' N'; (try dsimp only)))
local macro_rules | `(tactic| walk_at "exec For Name Name cons nil") => `(tactic| ((rename Fr _ _ _ _ => F9); refine For_F F9 (by rfl) (by rfl) ?_))
local macro_rules | `(tactic| walk_at "call builtin:len") => `(tactic| ((with_reducible show wpAny _ _ (call (Value.builtin "len") [Value.str Str.empty _]) _ _ _); refine P.len_str (by decide) ?_; (try dsimp only)))
local macro_rules | `(tactic| walk_at "call builtin:str.find") => `(tactic| (refine find0 rfl rfl (by omega) ?_; (try dsimp only)))
theorem ell_ge3 (w : World) (mg mb : Str → Option Value) (n : Nat) (b : Str) (t1 t2 : Tok) (news : List (Addr × Obj))
  (hb : 46 ∉ b.cps.toList) (h1 : 1 ≤ n) (hlen : n + b.length ≤ 1000) (hb1 : 1 ≤ b.length) (h3 : 3 ≤ n) :
   CbR Challenge.rw_pg0093_01.row.prog w (hd.heap_39 w.params) hd.view_39 (looseW hd.view_39 [Str.ofString "_twin_re_1", Str.ofString "_twin_re_2"]) mg mb 38 news True [.str (rowT n b) t1, .str b t2] (fun t => .bool (n % 3 == 0)) := by
  k_fill
  have hl1 : (rowT n b).length ≤ 1000 := by rw [rowT_length]; exact hlen
  have hl2 : b.length ≤ 1000 := by omega
  have hocc := found_row n b hb
  have hsp := split_row n b hb
  obtain ⟨q, hq⟩ : ∃ q, n / 3 = q + 1 := ⟨n / 3 - 1, by omega⟩
  rw [hq] at hsp
  rw [decide_eq_false (show ¬ n < 3 by omega)] at hocc
  have hlr : (rowT (n % 3) b).length = n % 3 + b.length := rowT_length _ _
  have hend := ends_row (n % 3) b
  have hz : (((rowT (n % 3) b).length : Int) != 0) = true := by rw [hlr]; simp; omega
  by_cases hr : n % 3 = 0
  · have hr' : (n % 3 == 0) = true := by rw [hr]; rfl
    rw [hr'] at hend ⊢
    dsimp only [CbR]
    intros
    rename_i hret
    refine wpAny_call ?_
    k_dflt (walk_at "cell_enterR")
    k_steps
    rename Fr _ _ _ _ => F9
    rename News _ _ _ _ => N9
    refine iter_upd (σ := Option Value × Tok) (fun a => [(Str.ofString "w", a.1), (Str.ofString "startpos", some (.int 0 a.2))]) (fun _ => _) (fun _ _ => True) (_, _) rfl (.tail _ (.head _)) F9 N9 ⟨rfl, rfl, trivial⟩ rfl trivial ?_ ?_
    · intro i v a h tk own I oI hv _ hoff hI hc F' N'
      obtain ⟨t, rfl⟩ : ∃ t, v = .str Str.empty t := by
        rcases List.mem_cons.mp (List.mem_of_getElem? hv) with rfl | hv'
        · exact ⟨_, rfl⟩
        · exact ‹∀ v ∈ _, ∃ t, v = Value.str Str.empty t› v hv'
      dsimp only
      k_fold
      k_steps
      rename Fr _ _ _ _ => F7
      refine UpdPost.fin (_, _) F7 ⟨rfl, rfl, trivial⟩ (fun z hz => ?_) (by assumption) hoff trivial
      have z1 := hz _ (.head _)
      have z2 := hz _ (.tail _ (.head _))
      simp only [upd, if_neg z1, if_neg z2]
    · intro a h tk _ F' N'
      dsimp only
      k_steps
      exact hret 0 _ _ (by assumption) (fun p hp => by rename News _ _ _ _ => N8; exact N8 p (by simp [hp]))
  · have hr' : (n % 3 == 0) = false := by simpa using hr
    rw [hr'] at hend ⊢
    dsimp only [CbR]
    intros
    rename_i hret
    refine wpAny_call ?_
    k_dflt (walk_at "cell_enterR")
    k_steps
    exact hret 0 _ _ (by assumption) (fun p hp => by rename News _ _ _ _ => N9; exact N9 p (by simp [hp]))
theorem ell_lt3 (w : World) (mg mb : Str → Option Value) (n : Nat) (b : Str) (t1 t2 : Tok) (news : List (Addr × Obj))
  (hb : 46 ∉ b.cps.toList) (h1 : 1 ≤ n) (hlen : n + b.length ≤ 1000) (h3 : n < 3) :
   CbR Challenge.rw_pg0093_01.row.prog w (hd.heap_39 w.params) hd.view_39 (looseW hd.view_39 [Str.ofString "_twin_re_1", Str.ofString "_twin_re_2"]) mg mb 38 news True [.str (rowT n b) t1, .str b t2] (fun t => .bool (n % 3 == 0)) := by
  k_fill
  have hl1 : (rowT n b).length ≤ 1000 := by rw [rowT_length]; exact hlen
  have hl2 : b.length ≤ 1000 := by omega
  have hocc := found_row n b hb
  rw [decide_eq_true h3] at hocc
  have hr' : (n % 3 == 0) = (rowT n b == b) := by rw [row_ne n b h1]; simp; omega
  rw [hr']
  dsimp only [CbR]
  intros
  rename_i hret
  refine wpAny_call ?_
  k_dflt (walk_at "cell_enterR")
  k_steps
  exact hret 0 _ _ (by assumption) (by assumption)
theorem ell_ct (w : World) (mg mb : Str → Option Value) (n : Nat) (b : Str) (t1 t2 : Tok) (news : List (Addr × Obj))
  (hb : 46 ∉ b.cps.toList) (h1 : 1 ≤ n) (hlen : n + b.length ≤ 1000) (hb1 : 1 ≤ b.length) :
   CbR Challenge.rw_pg0093_01.row.prog w (hd.heap_39 w.params) hd.view_39 (looseW hd.view_39 [Str.ofString "_twin_re_1", Str.ofString "_twin_re_2"]) mg mb 38 news True [.str (rowT n b) t1, .str b t2] (fun t => .bool (n % 3 == 0)) := by
  by_cases h3 : n < 3
  · exact ell_lt3 w mg mb n b t1 t2 news hb h1 hlen h3
  · exact ell_ge3 w mg mb n b t1 t2 news hb h1 hlen hb1 (by omega)
end Mine
end
-- F1
section
open PySem PySem.W PySem.Calls PyProof.Rows
set_option maxRecDepth 100000
set_option maxHeartbeats 8000000
namespace Mine
noncomputable abbrev tupObj (vs : List Value) : Obj := { cls := .type "tuple", data := .seq vs.toArray }
section
variable {prog : Program} {w : World} {A : Around} {E : Value → Shared → Prop} {s : Shared}
theorem sliceApplied_to2 {sl : Addr} {u : Tok} {Q : Int × Int × Nat → Shared → Prop} (hs : s.heap.IsSliceOf sl .none (.int 2 u) .none) (h : Q (0, 1, 2) s) :
    wpAny (model prog w) A (Builtin.Slice.sliceApplied (.ref sl) (pure (3 : Int))) Q E s := by
  obtain ⟨os, hos, hcs, hds⟩ := id hs
  unfold Builtin.Slice.sliceApplied Builtin.Slice.sliceFields
  refine wpAny_bind (wpAny_bind (wpAny_field hos hds (x := .none) rfl (wpAny_bind (wpAny_field hos hds (x := .int 2 u) rfl (wpAny_bind (wpAny_field hos hds (x := .none) rfl (wpAny_pure ?_)))))))
  refine wpAny_bind (slicePart_none ?_)
  show wpAny _ _ (if ((1 : Int) == 0) = true then _ else _) _ _ s
  rw [if_neg (by decide)]
  refine wpAny_bind (slicePart_none (wpAny_bind (slicePart_int (wpAny_bind (wpAny_pure ?_)))))
  exact wpAny_pure h
theorem getItem_tuple_to2 {t sl : Addr} {a b c : Value} {u : Tok} {Q : Value → Shared → Prop} (ht : IsTup s.heap t #[a, b, c]) (hs : s.heap.IsSliceOf sl .none (.int 2 u) .none)
    (h : Q (.ref s.heap.objs.size) { s with heap := s.heap.push (tupObj [a, b]) }) : wpAny (model prog w) A (getItem (.ref t) (.ref sl)) Q E s := by
  obtain ⟨os, hos, hcs, hds⟩ := id hs
  have hTs : s.TypeIs (.ref sl) "slice" := ⟨os, hos, hcs⟩
  unfold getItem
  try with_reducible refine wpAny_holding ?_
  first | refine wpAny_bind (wpAny_pure ?_) | skip
  refine wpAny_bind (wpAny_sequenceKey ht.typeIs (by decide) ?_)
  refine wpAny_bind (wpAny_callSpecial?_slot (name := Str.ofString "__getitem__") ht.typeIs slot_tuple_getitem
    (wpAny_call_entry slot_tuple_getitem ht.typeIs entry_tuple_getitem ?_ (args_tuple_getitem _ _)))
  show wpAny _ _ (Builtin.Tuple.tupleItemsOf (.ref t) >>= _) _ _ s
  refine wpAny_bind (tupleItemsOf_ ht ?_)
  refine wpAny_bind (wpAny_typeOf hTs ?_)
  rw [if_pos (by decide)]
  refine wpAny_bind (sliceApplied_to2 hs ?_)
  have hdrop : sizeOk (.seq [a, b].toArray) := by show 2 ≤ sizeLine; decide
  show wpAny _ _ (if ((0 : Int) == 0 && (1 : Int) == 1 && (2 : Nat) == 3) = true then _ else _) _ _ s
  rw [if_neg (by decide)]
  first
    | exact wpAny_bind (m := Builtin.Tuple.tupleExact _) (wpAny_newObj_type (wpAny_pure ⟨_, rfl, wpAny_pure h⟩) hdrop)
    | exact wpAny_bind (m := Builtin.Tuple.tupleExact _) (wpAny_newObj_type (wpAny_bind (wpAny_pure (wpAny_pure ⟨_, rfl, wpAny_pure h⟩))) hdrop)
    | exact wpAny_bind (wpAny_bind (m := Builtin.Tuple.tupleExact _) (wpAny_newObj_type (wpAny_pure (wpAny_pure ⟨_, rfl, wpAny_pure h⟩)) hdrop))
    | exact wpAny_bind (wpAny_bind (m := Builtin.Tuple.tupleExact _) (wpAny_newObj_type (wpAny_pure ⟨_, rfl, wpAny_pure h⟩) hdrop))
variable {h₀ : Heap} {L : Addr} {m : Str → Option Value} {news : List (Addr × Obj)}
theorem slice_tuple_to2 {value slice : Expr} {t : Addr} {a b c : Value} {n : Nat} {u : Tok} {Q : Value → Shared → Prop}
    (F : Fr h₀ L s.heap m) (N : News h₀ L s.heap news) (hm : (t, ({ cls := .type "tuple", data := .seq #[a, b, c] n } : Obj)) ∈ news)
    (h : ∀ D h', Off D news → Fr h₀ L h' m → News h₀ L h' ((D, tupObj [a, b]) :: news) → Q (.ref D) { s with heap := h' })
    (hs : subscripted slice false (.ref t) (.ref s.heap.objs.size) = operate [.ref s.heap.objs.size, .ref t] (getItem (.ref t) (.ref s.heap.objs.size)) := by with_unfolding_all rfl)
    (hg : ∀ r, letTemporaryGo value (.ref t) r = pure () := by intro _; with_unfolding_all rfl) :
    wpAny (model prog w) A (subscriptTail value slice (.ref t) (.ref s.heap.objs.size)) Q E { s with heap := s.heap.push { cls := .type "slice", data := .fields #[.none, .int 2 u, .none] } } := by
  have ht : IsTup s.heap t #[a, b, c] := ⟨_, N.get hm, rfl, n, rfl⟩
  have ht' : IsTup (s.heap.push { cls := .type "slice", data := .fields #[.none, .int 2 u, .none] }) t #[a, b, c] := ht.keeps fun _ _ e => Heap.get?_push_of_some _ e
  refine subscriptTail_ops (s := { s with heap := s.heap.push { cls := .type "slice", data := .fields #[.none, .int 2 u, .none] } }) ht'.typeIs slot_tuple_getitem.lookup
    (getItem_tuple_to2 ht' (Heap.IsSliceOf.new ..) ?_) hs hg
  have N0 : News h₀ L (s.heap.push { cls := .type "slice", data := .fields #[.none, .int 2 u, .none] }) news := N.grown fun _ _ e => Heap.get?_push_of_some _ e
  have N1 := News.push (F.push { cls := .type "slice", data := .fields #[.none, .int 2 u, .none] }) N0 (tupObj [a, b])
  exact h _ _ (off_size N0) ((F.push _).push _) N1
/-- (stem, line) is not ('~', 0) -/
theorem ne_tilde {D1 D2 : Addr} {stem : Str} {line : Int} {t1 t2 t3 t4 : Tok} {n1 n2 : Nat} {Q : Value → Shared → Prop} (N : News h₀ L s.heap news) (h1 : (D1, ({ cls := .type "tuple", data := .seq #[.str stem t1, .int line t2] n1 } : Obj)) ∈ news)
    (h2 : (D2, ({ cls := .type "tuple", data := .seq #[.str (Str.ofString "~") t3, .int 0 t4] n2 } : Obj)) ∈ news) (hs : stem ≠ Str.ofString "~") (hok : PyData.strOk stem = true) (hu : A.units + 64 < cLine) (h : Q (.bool false) s) : wpAny (model prog w) A (compareOp .Eq (.ref D1) (.ref D2)) Q E s := by
  refine eq_dataH (da := .tuple [.str stem, .int line]) (db := .tuple [.str (Str.ofString "~"), .int 0]) (reads_tuple_at (N.get h1) rfl rfl (ReadsAll.cons (Reads.str _ _) (ReadsAll.cons (Reads.int _ _) ReadsAll.nil))) (reads_tuple_at (N.get h2) rfl rfl (ReadsAll.cons (Reads.str _ _) (ReadsAll.cons (Reads.int _ _) ReadsAll.nil)))
    (by simp [SeqAt.shaped, PyData.canLay0, PyData.canLayAll0, PyData.depth, PyData.depthAll, hok]) (by simp [SeqAt.shaped, PyData.canLay0, PyData.canLayAll0, PyData.depth, PyData.depthAll]; decide +kernel) hu ?_
  have e : PyData.eqv (.tuple [.str stem, .int line]) (.tuple [.str (Str.ofString "~"), .int 0]) = false := by
    have : (stem == Str.ofString "~") = false := by rw [beq_eq_false_iff_ne]; exact hs
    simp [PyData.eqv, PyData.eqvAll, this]
  rw [e]; exact h
end
end Mine
end
-- F2
section
open PySem PySem.W PySem.Calls PyProof.Rows
set_option maxRecDepth 100000
set_option maxHeartbeats 8000000
namespace Mine
/-- func_std_string's text -/
noncomputable def bareT (stem : Str) (line : Int) : Str := stem ++ Str.ofString ":" ++ Str.ofString (toString line) ++ Str.ofString "(" ++ Str.ofString "f" ++ Str.ofString ")"
local macro_rules | `(tactic| walk_at "subscriptTail Name Slice ref ref") => `(tactic| ((rename Fr _ _ _ _ => F9); (rename News _ _ _ _ => N9); refine slice_tuple_to2 F9 N9 (by first | assumption | k_mem) ?_; clear F9 N9; intro D' h' o' F' N'; (try dsimp only [tupObj] at N'); (try dsimp only)))
local macro_rules | `(tactic| walk_at "compareOp Eq ref ref") => `(tactic| ((rename News _ _ _ _ => N9); refine ne_tilde N9 (.tail _ (.head _)) (.head _) (by assumption) (by assumption) (by show _ + 3 + 64 < cLine; dsimp only [ktrTop]; omega) ?_; (try dsimp only)))
local macro_rules | `(tactic| walk_at "binaryOp Mod str ref") => `(tactic| ((with_reducible show wpAny _ _ (binaryOp Operator.Mod (Value.str _ _) (Value.ref _)) _ _ _); (rename News _ _ _ _ => N9); k_dflt (refine' KPt.mod_tuple N9 ?kptb ?kptF ?kptm ?_; (case kptb => exact List.mem_cons_of_mem _ (List.mem_cons_of_mem _ (by assumption))); (case kptF => kpt_eq); (case kptm => kpt_run)); intro _ _))
section
variable {w : World} {mg mb : Str → Option Value} {dp un : Nat} {gd : Option (List Code)} {cn : Str} {cs : Scope} {a : Addr} {ccd : Value} {cl : List (Str × Addr)} {outer : List Env} {A₀ : Around} {base h₀ : Heap} {L : Addr} {m : Str → Option Value} {s : Shared} {Q E : Value → Shared → Prop} {news : List (Addr × Obj)}
theorem fss_ct {D : Addr} {stem : Str} {line : Int} {t1 t2 t3 : Tok} (B : Below A₀ base outer h₀) (F : Fr h₀ L s.heap m) (N : News h₀ L s.heap news) (T : TopRead hd.view_39 (looseW hd.view_39 [Str.ofString "_twin_re_1", Str.ofString "_twin_re_2"]) mg mb h₀)
    (hk : cs.kind = .function) (hdp : dp + 5 < recursionLimit) (hun : un + 200 < cLine) (hm : (D, ({ cls := .type "tuple", data := .seq #[.str stem t1, .int line t2, .str (Str.ofString "f") t3] } : Obj)) ∈ news)
    (hs : stem ≠ Str.ofString "~") (hok : PyData.strOk stem = true) (hl : stem.length ≤ 100) (h0 : 0 ≤ line) (h1 : line < 1000000)
    (hret : ∀ t h' tk', Fr h₀ L h' m → News h₀ L h' news → Q (.str (bareT stem line) t) { s with heap := h', toks := tk' }) :
    (hd.heap_39 w.params).In h₀ → wpAny (model Challenge.rw_pg0093_01.row.prog w) (ktrTop dp un gd cn cs L a ccd cl outer) (call (.ref 45) [.ref D]) Q E s := by
  k_fill
  intro X
  refine wpAny_call ?_
  k_dflt (walk_at "cell_enterR")
  k_steps
  rename News _ _ _ _ => N9
  exact hret _ _ _ (by assumption) fun p hp => N9 p (List.mem_cons_of_mem _ (List.mem_cons_of_mem _ hp))
end
end Mine
end
-- D1
section
open PySem PySem.W PySem.Calls PyProof.Rows
set_option maxRecDepth 100000
namespace Mine
section
variable {prog : Program} {w : World} {A : Around} {E : Value → Shared → Prop} {s : Shared} {env : Env} {h₀ : Heap} {body : List Stmt} {Q : Flow → Shared → Prop}
/-- the rest of a loop over a dict's items, by a state -/
theorem items_rest {σ : Type} (vals : σ → List (Str × Option Value)) (nOf : σ → List (Addr × Obj)) (Inv : Nat → σ → Prop) {target : Expr} {d I : Addr} {od : Obj} {kvs : List (Int × Value)} {m₀ : Str → Option Value}
    (hkeep : ∀ i a, Inv i a → (d, od) ∈ nOf a)
    (turn : ∀ i k x a h tk T t oI, kvs[i]? = some (k, x) → Inv i a → Off I (nOf a) → oI.cls = .type "dict_itemiterator" → IsTup h T #[.int k t, x] →
      Fr h₀ env.locals h (upd m₀ (vals a)) → News h₀ env.locals h ((I, oI) :: nOf a) →
      wpAny (model prog w) A (assign target env (.ref T)) (fun _ s₂ => wpAny (model prog w) A (execs body env) (UpdPost m₀ vals nOf (Inv (i + 1)) h₀ env.locals I [(I, oI)] { s with heap := h, toks := tk } Q) E s₂) E { s with heap := h, toks := tk })
    (done : ∀ a h tk, Inv kvs.length a → Fr h₀ env.locals h (upd m₀ (vals a)) → News h₀ env.locals h (nOf a) → Q .next { s with heap := h, toks := tk }) :
    ∀ (rest : List (Int × Value)) (i : Nat) (a : σ), kvs.drop i = rest → Inv i a → Off I (nOf a) → i ≤ kvs.length →
      ItemsRest prog w A E h₀ env target body Q s [(I, "dict_itemiterator")] [(d, od)] (rest.map fun p => Itm.pair (fun t => .int p.1 t) p.2) (upd m₀ (vals a)) (nOf a)
  | [], i, a, e, hI, ho, hi => by
    have hl : i = kvs.length := by
      have := congrArg List.length e
      simp at this; omega
    subst hl
    exact ItemsRest.zero fun h tk F N => done a h tk hI F N
  | (k, x) :: rest, i, a, e, hI, ho, hi => by
    have hx : kvs[i]? = some (k, x) := by
      have := congrArg (fun l => l[0]?) e
      simpa using this
    have hlt : i < kvs.length := by
      rcases Nat.lt_or_ge i kvs.length with h | h
      · exact h
      · rw [List.getElem?_eq_none h] at hx; cases hx
    have e' : kvs.drop (i + 1) = rest := by rw [← List.drop_drop, e]; rfl
    refine ItemsRest.pair fun T t h tk hT F => AllObj.cons fun oI hc => AllObj.nil fun N => ?_
    refine wpAny_mono (turn i k x a h tk T t oI hx hI ho hc hT F N) (fun _ s₂ p => wpAny_mono p (fun f s₃ q => ?_) fun _ _ e => e) fun _ _ e => e
    have fin : ∀ {s₃ : Shared}, (∃ h' tk' m₂ a', s₃ = { ({ s with heap := h, toks := tk } : Shared) with heap := h', toks := tk' } ∧ Fr h₀ env.locals h' m₂ ∧ (∀ z, m₂ z = upd m₀ (vals a') z) ∧ News h₀ env.locals h' ([(I, oI)] ++ nOf a') ∧ Off I (nOf a') ∧ Inv (i + 1) a') →
        UnrEndW h₀ env.locals { s with heap := h, toks := tk } [(I, oI)] (fun m' n' => SubL [(d, od)] n' ∧ ItemsRest prog w A E h₀ env target body Q s [(I, "dict_itemiterator")] [(d, od)] (rest.map fun p => Itm.pair (fun t => .int p.1 t) p.2) m' n') s₃ := by
      rintro s₃ ⟨h', tk', m₂, a', rfl, F₂, hm₂, N₂, ho', hI'⟩
      refine ⟨h', tk', m₂, nOf a', rfl, F₂, N₂, fun p hp q hq => ?_, ⟨hkeep _ _ hI', trivial⟩, ?_⟩
      · rw [List.mem_singleton.mp hq]; exact ho' p hp
      · rw [funext hm₂]; exact items_rest vals nOf Inv hkeep turn done rest (i + 1) a' e' hI' ho' hlt
    cases f with
    | ret v => exact q
    | brk => exact q
    | next => exact fin q
    | cont => exact fin q
theorem items_upd {σ : Type} (vals : σ → List (Str × Option Value)) (nOf : σ → List (Addr × Obj)) (Inv : Nat → σ → Prop) (a₀ : σ) {elts : List Expr} {kk : Nat} {pos : Pos} {d vw : Addr} {od : Obj} {kvs : List (Int × Value)} {m₀ : Str → Option Value} {news : List (Addr × Obj)}
    (hh : A.handled = none) (F : Fr h₀ env.locals s.heap m₀) (N : News h₀ env.locals s.heap news) (hvw : ∃ ov, s.heap.get? vw = some ov ∧ ov.cls = .type "dict_items" ∧ ov.data = .fields #[.ref d]) (hm : (d, od) ∈ news) (hd : od.IsDictOf (PySem.intKind prog w) kvs)
    (hm0 : AllVals m₀ (vals a₀)) (hn0 : nOf a₀ = news) (hj : Inv 0 a₀) (hkeep : ∀ i a, Inv i a → (d, od) ∈ nOf a)
    (turn : ∀ I i k x a h tk T t oI, kvs[i]? = some (k, x) → Inv i a → Off I (nOf a) → oI.cls = .type "dict_itemiterator" → IsTup h T #[.int k t, x] →
      Fr h₀ env.locals h (upd m₀ (vals a)) → News h₀ env.locals h ((I, oI) :: nOf a) →
      wpAny (model prog w) A (assign (.Tuple elts kk pos) env (.ref T)) (fun _ s₂ => wpAny (model prog w) A (execs body env) (UpdPost m₀ vals nOf (Inv (i + 1)) h₀ env.locals I [(I, oI)] { s with heap := h, toks := tk } Q) E s₂) E { s with heap := h, toks := tk })
    (done : ∀ a h tk, Inv kvs.length a → Fr h₀ env.locals h (upd m₀ (vals a)) → News h₀ env.locals h (nOf a) → Q .next { s with heap := h, toks := tk }) :
    wpAny (model prog w) A (pyIter (.ref vw)) (fun it s₂ => TurnsAt prog w A h₀ env (.Tuple elts kk pos) body Q E it s₂) E s := by
  refine kta_items (knd := PySem.intKind _ _) (enc := PyData.int) (xs := kvs.map fun p => Itm.pair (fun t => .int p.1 t) p.2) hh F N hvw hm hd (fun _ _ h => Value.isInt_shape h) rfl fun I hlt => ?_
  have e : m₀ = upd m₀ (vals a₀) := funext (upd_of hm0 fun _ _ => rfl)
  rw [e, ← hn0]
  rw [← e]
  have := items_rest (m₀ := m₀) vals nOf Inv hkeep (fun i k x a h tk T t oI => turn I i k x a h tk T t oI) done kvs 0 a₀ rfl hj (fun p hp => by rw [hn0] at hp; exact Nat.ne_of_lt (hlt p hp)) (Nat.zero_le _)
  rw [← e] at this
  exact this
end
end Mine
end
-- D2
section
open PySem PySem.W PySem.Calls PyProof.Rows
set_option maxRecDepth 100000
set_option maxHeartbeats 8000000
namespace Mine
section
variable {prog : Program} {w : World} {A : Around} {E : Value → Shared → Prop} {s : Shared} {h₀ : Heap} {L : Addr} {m : Str → Option Value} {rest : List (Addr × Obj)}
theorem set_led {I d : Addr} {oI o : Obj} {kvs : List (Int × Value)} {k : Int} {t : Tok} {v : Value} {Q : Unit → Shared → Prop} (F : Fr h₀ L s.heap m) (N : News h₀ L s.heap ((I, oI) :: (d, o) :: rest)) (h1 : d ≠ I) (h2 : Off d rest) (hd : o.IsDictOf (PySem.intKind prog w) kvs) (hlen : kvs.length ≤ 1000)
    (h : ∀ h' o', Fr h₀ L h' m → News h₀ L h' ((I, oI) :: (d, o') :: rest) → o'.IsDictOf (PySem.intKind prog w) (stored kvs k v) → Q () { s with heap := h', toks := s.toks + 1 }) : wpAny (model prog w) A (setItem (.ref d) (.int k t) v) Q E s :=
  kda_set (knd := PySem.intKind _ _) F N (.tail h1.symm (.head h2)) hd (intKind_is _ _ _ _) (by rw [sizeLine_eq]; omega) h
theorem off_lt2 {d dt ds : Addr} {ot os : Obj} (h : dt < d ∧ ds < d ∧ AllLt d rest) : Off d ((dt, ot) :: (ds, os) :: rest) := by
  intro p hp
  rcases List.mem_cons.mp hp with rfl | hp
  · exact Nat.ne_of_lt h.1
  rcases List.mem_cons.mp hp with rfl | hp
  · exact Nat.ne_of_lt h.2.1
  have : ∀ {l : List (Addr × Obj)}, AllLt d l → ∀ p ∈ l, p.1 < d := by
    intro l
    induction l with
    | nil => intro _ p hp; cases hp
    | cons q r ih =>
      intro h p hp
      rcases List.mem_cons.mp hp with rfl | hp
      · exact h.1
      · exact ih h.2 p hp
  exact Nat.ne_of_lt (this h.2.2 p hp)
theorem off_swap {I d : Addr} {o o' : Obj} (h : Off I ((d, o) :: rest)) : Off I ((d, o') :: rest) := by
  intro p hp
  rcases List.mem_cons.mp hp with rfl | hp
  · exact h (d, o) (List.mem_cons_self ..)
  · exact h p (List.mem_cons_of_mem _ hp)
theorem stored_take {kt : List (Int × Value)} (hn : (kt.map (·.1)).Nodup) {i : Nat} {k : Int} {x : Value} (hx : kt[i]? = some (k, x)) : stored (kt.take i) k x = kt.take (i + 1) := by
  have hlt : i < kt.length := by
    rcases Nat.lt_or_ge i kt.length with h | h
    · exact h
    · rw [List.getElem?_eq_none h] at hx; cases hx
  have hx' : kt[i] = (k, x) := by rw [List.getElem?_eq_getElem hlt] at hx; exact Option.some.inj hx
  have : (kt.take i).any (fun kv => kv.1 = k) = false := by
    rw [List.any_eq_false]
    intro p hp hpk
    obtain ⟨j, hj, rfl⟩ := List.mem_iff_getElem.mp hp
    simp only [List.length_take] at hj
    have hjk : (kt.map (·.1))[j]'(by simp; omega) = (kt.map (·.1))[i]'(by simp; omega) := by
      simp only [List.getElem_map, hx']
      simpa using hpk
    exact List.pairwise_iff_getElem.mp hn j i (by simp; omega) (by simp; omega) (by omega) hjk
  unfold stored
  rw [this, List.take_succ, hx]
  simp
end
local macro_rules | `(tactic| walk_at "setItem ref int") => `(tactic| ((rename Fr _ _ _ _ => F9); (rename News _ _ _ _ => N9); refine set_led F9 N9 (by assumption) (by assumption) (by assumption) (by (try simp only [List.length_take]); omega) ?_; clear F9 N9; intro h' o' F' N' hd'; (try dsimp only)))
local macro_rules | `(tactic| walk_at "compareOp In int ref") => `(tactic| ((rename News _ _ _ _ => N9); refine kda_in (knd := PySem.intKind _ _) N9 (.tail _ (.head _)) (by assumption) (by assumption) (intKind_is _ _ _ _) _ (by assumption) ?_; (try dsimp only)))
local macro_rules | `(tactic| walk_at "getItem ref int") => `(tactic| ((rename News _ _ _ _ => N9); refine kdt_getItem (knd := PySem.intKind _ _) N9 (.tail _ (.head _)) (by assumption) (intKind_is _ _ _ _) (by assumption) ?_; (try dsimp only)))
local macro_rules | `(tactic| walk_at "subscriptTail Name Name ref int") => `(tactic| ((rename News _ _ _ _ => N9); refine kda_item (knd := PySem.intKind _ _) N9 (.tail _ (.head _)) (by assumption) (intKind_is _ _ _ _) (by assumption) ?_; (try dsimp only)))
section
variable {w : World} {mg mb : Str → Option Value} {dp un : Nat} {gd : Option (List Code)} {cn : Str} {cs : Scope} {a : Addr} {ccd : Value} {cl : List (Str × Addr)} {outer : List Env} {A₀ : Around} {base h₀ : Heap} {L : Addr} {m : Str → Option Value} {s : Shared} {Q E : Value → Shared → Prop} {news : List (Addr × Obj)}
theorem addI_ct {dt ds : Addr} {ot os : Obj} {kt : List (Int × Value)} {k c : Int} {u : Tok} (B : Below A₀ base outer h₀) (F : Fr h₀ L s.heap m) (N : News h₀ L s.heap ((dt, ot) :: (ds, os) :: news)) (T : TopRead hd.view_39 (looseW hd.view_39 [Str.ofString "_twin_re_1", Str.ofString "_twin_re_2"]) mg mb h₀)
    (hk : cs.kind = .function) (hdp : dp + 5 < recursionLimit) (hun : un + 200 < cLine)
    (hdt : ot.IsDictOf (PySem.intKind Challenge.rw_pg0093_01.row.prog w) kt) (hds : os.IsDictOf (PySem.intKind Challenge.rw_pg0093_01.row.prog w) [(k, .int c u)]) (lot : (dt == sysModules) = false) (los : (ds == sysModules) = false) (hlen : kt.length ≤ 100) (hints : ∀ p ∈ kt, ∃ c t, p.2 = .int c t)
    (hret : ∀ D o v h' tk', Fr h₀ L h' m → News h₀ L h' ((D, o) :: (dt, ot) :: (ds, os) :: news) → (D == sysModules) = false → o.IsDictOf (PySem.intKind Challenge.rw_pg0093_01.row.prog w) (stored kt k v) →
      (match valueAt kt k with | none => ∃ t, v = .int c t | some x => ∃ c0 t0 t, x = .int c0 t0 ∧ v = .int (c0 + c) t) → Q (.ref D) { s with heap := h', toks := tk' }) :
    (hd.heap_39 w.params).In h₀ → wpAny (model Challenge.rw_pg0093_01.row.prog w) (ktrTop dp un gd cn cs L a ccd cl outer) (call (.ref 59) [.ref dt, .ref ds]) Q E s := by
  k_fill
  intro X
  refine wpAny_call ?_
  k_dflt (walk_at "cell_enterR")
  k_steps
  have hnd : (kt.map (·.1)).Nodup := by obtain ⟨es, ep, h1, h2, h3, h4, h5⟩ := hdt; exact h5
  rename Fr _ _ _ _ => F9
  rename News _ _ _ _ => N9
  rename _ ∧ _ ∧ AllLt _ _ => hl1
  have hoffd := off_lt2 (ot := ot) (os := os) hl1
  rename Obj.IsDictOf (PySem.intKind _ _) _ [] => hd0
  with_unfolding_all ((refine' For_turns F9 ?_); k_whole; (refine MethodCall_ ?_); (refine ld F9 (by rfl) ?_); (refine kdl_method (knd := PySem.intKind _ _) PySem.F.slot_dict_items PySem.F.type_dict_items N9 (.tail _ (.head _)) hdt ?_); (refine callWith_method0 ?_); (refine kta_callItems (knd := PySem.intKind _ _) F9 N9 (.tail _ (.head _)) hdt lot ?_); intro h' hv' F' N')
  clear F9 N9
  refine items_upd (σ := Option Value × Option Value × Obj) (fun a => [(Str.ofString "func", a.1), (Str.ofString "caller", a.2.1)]) (fun a => (_, a.2.2) :: (dt, ot) :: (ds, os) :: news) (fun i a => a.2.2.IsDictOf (PySem.intKind Challenge.rw_pg0093_01.row.prog w) (kt.take i)) (none, none, _) rfl F' N' hv' (.tail _ (.head _)) hdt ⟨rfl, rfl, trivial⟩ rfl hd0 (fun _ _ _ => .tail _ (.head _)) ?_ ?_
  · intro I i k1 x a h tk T t oI hx hI hoff hc hT F' N'
    obtain ⟨c1, t1, e1⟩ := hints _ (List.mem_of_getElem? hx)
    dsimp only at e1
    subst e1
    obtain ⟨a1, a2, a3⟩ := a
    dsimp only at hI hoff N' F' ⊢
    k_fold
    have ho1 := hoff _ (List.mem_cons_self ..)
    dsimp only at ho1
    k_steps
    rename Fr _ _ _ _ => F7
    rename News _ _ _ _ => N7
    refine UpdPost.fin (_, _, _) F7 ⟨rfl, rfl, trivial⟩ (fun z hz => ?_) N7 (off_swap hoff) ?_
    · have z1 := hz _ (.head _)
      have z2 := hz _ (.tail _ (.head _))
      simp only [upd, if_neg z1, if_neg z2]
    · rename Obj.IsDictOf _ _ (stored _ _ _) => hd7
      rw [stored_take hnd hx] at hd7
      exact hd7
  · intro a h tk hI F' N'
    obtain ⟨a1, a2, a3⟩ := a
    dsimp only at hI N' F' ⊢
    rw [List.take_length] at hI
    k_steps
    rename Fr _ _ _ _ => F9
    rename News _ _ _ _ => N9
    with_unfolding_all ((refine' For_turns F9 ?_); k_whole; (refine MethodCall_ ?_); (refine ld F9 (by rfl) ?_); (refine kdl_method (knd := PySem.intKind _ _) PySem.F.slot_dict_items PySem.F.type_dict_items N9 (.tail _ (.tail _ (.head _))) hds ?_); (refine callWith_method0 ?_); (refine kta_callItems (knd := PySem.intKind _ _) F9 N9 (.tail _ (.tail _ (.head _))) hds los ?_); intro h' hv' F' N')
    clear F9 N9
    have one : ∀ {i k1 x}, [(k, Value.int c u)][i]? = some (k1, x) → i = 0 ∧ k1 = k ∧ x = .int c u := by
      intro i k1 x h
      match i, h with
      | 0, h => simp at h; exact ⟨rfl, h.1.symm, h.2.symm⟩
      | i + 1, h => simp at h
    cases hv : valueAt kt k with
    | none =>
      rw [hv] at hret
      have hsome : (valueAt kt k).isSome = false := by rw [hv]; rfl
      refine items_upd (σ := Option Value × Option Value × Obj) (fun a => [(Str.ofString "func", a.1), (Str.ofString "caller", a.2.1)]) (fun a => (_, a.2.2) :: (dt, ot) :: (ds, os) :: news) (fun i a => a.2.2.IsDictOf (PySem.intKind Challenge.rw_pg0093_01.row.prog w) (if i = 0 then kt else stored kt k (.int c u))) (a1, a2, a3) rfl F' N' hv' (.tail _ (.tail _ (.head _))) hds ⟨rfl, rfl, trivial⟩ rfl hI (fun _ _ _ => .tail _ (.tail _ (.head _))) ?_ ?_
      · intro I i k1 x a h tk T t oI hx hI hoff hc hT F' N'
        obtain ⟨rfl, rfl, rfl⟩ := one hx
        obtain ⟨b1, b2, b3⟩ := a
        rw [if_pos rfl] at hI
        dsimp only at hI hoff N' F' ⊢
        k_fold
        have ho1 := hoff _ (List.mem_cons_self ..)
        dsimp only at ho1
        k_steps
        rename Fr _ _ _ _ => F7
        rename News _ _ _ _ => N7
        rename Obj.IsDictOf _ _ (stored _ _ _) => hd7
        refine UpdPost.fin (_, _, _) F7 ⟨rfl, rfl, trivial⟩ (fun z hz => ?_) N7 (off_swap hoff) hd7
        have z1 := hz _ (.head _)
        have z2 := hz _ (.tail _ (.head _))
        simp only [upd, if_neg z1, if_neg z2]
      · intro a h tk hI F' N'
        obtain ⟨b1, b2, b3⟩ := a
        rw [if_neg (by simp)] at hI
        dsimp only at hI N' F' ⊢
        k_steps
        rename News _ _ _ _ => N7
        exact hret _ _ _ _ _ (by assumption) N7 (by assumption) hI ⟨_, rfl⟩
    | some x =>
      rw [hv] at hret
      have hsome : (valueAt kt k).isSome = true := by rw [hv]; rfl
      obtain ⟨c0, t0, rfl⟩ : ∃ c0 t0, x = .int c0 t0 := by
        have hv2 := hv
        unfold valueAt at hv2
        obtain ⟨p, hp, e⟩ := Option.map_eq_some_iff.mp hv2
        obtain ⟨c0, t0, e0⟩ := hints p (List.mem_of_find?_eq_some hp)
        exact ⟨c0, t0, e ▸ e0⟩
      refine items_upd (σ := Option Value × Option Value × Obj) (fun a => [(Str.ofString "func", a.1), (Str.ofString "caller", a.2.1)]) (fun a => (_, a.2.2) :: (dt, ot) :: (ds, os) :: news) (fun i a => if i = 0 then a.2.2.IsDictOf (PySem.intKind Challenge.rw_pg0093_01.row.prog w) kt else ∃ t, a.2.2.IsDictOf (PySem.intKind Challenge.rw_pg0093_01.row.prog w) (stored kt k (.int (c0 + c) t))) (a1, a2, a3) rfl F' N' hv' (.tail _ (.tail _ (.head _))) hds ⟨rfl, rfl, trivial⟩ rfl hI (fun _ _ _ => .tail _ (.tail _ (.head _))) ?_ ?_
      · intro I i k1 x a h tk T t oI hx hI hoff hc hT F' N'
        obtain ⟨rfl, rfl, rfl⟩ := one hx
        obtain ⟨b1, b2, b3⟩ := a
        rw [if_pos rfl] at hI
        dsimp only at hI hoff N' F' ⊢
        k_fold
        have ho1 := hoff _ (List.mem_cons_self ..)
        dsimp only at ho1
        k_steps
        rename Fr _ _ _ _ => F7
        rename News _ _ _ _ => N7
        rename Obj.IsDictOf _ _ (stored _ _ _) => hd7
        refine UpdPost.fin (_, _, _) F7 ⟨rfl, rfl, trivial⟩ (fun z hz => ?_) N7 (off_swap hoff) ⟨_, hd7⟩
        have z1 := hz _ (.head _)
        have z2 := hz _ (.tail _ (.head _))
        simp only [upd, if_neg z1, if_neg z2]
      · intro a h tk hI F' N'
        obtain ⟨b1, b2, b3⟩ := a
        rw [if_neg (by simp)] at hI
        obtain ⟨t5, hI⟩ := hI
        dsimp only at hI N' F' ⊢
        k_steps
        rename News _ _ _ _ => N7
        exact hret _ _ _ _ _ (by assumption) N7 (by assumption) hI ⟨_, _, _, rfl, rfl⟩
end
end Mine
end
-- D3
section
open PySem PySem.W PySem.Calls PyProof.Rows
set_option maxRecDepth 100000
set_option maxHeartbeats 8000000
namespace Mine
theorem nc {h₀ h : Heap} {L : Addr} {p : Addr × Obj} {l all : List (Addr × Obj)} (N : News h₀ L h all) (hp : p ∈ all) (N' : News h₀ L h l) : News h₀ L h (p :: l) := fun q hq => by
  rcases List.mem_cons.mp hq with rfl | hq
  · exact N _ hp
  · exact N' q hq
theorem nd {h₀ h : Heap} {L : Addr} {p : Addr × Obj} {l : List (Addr × Obj)} (N : News h₀ L h (p :: l)) : News h₀ L h l := fun q hq => N q (List.mem_cons_of_mem _ hq)
section
variable {w : World} {mg mb : Str → Option Value} {dp un : Nat} {gd : Option (List Code)} {cn : Str} {cs : Scope} {a : Addr} {ccd : Value} {cl : List (Str × Addr)} {outer : List Env} {A₀ : Around} {base h₀ : Heap} {L : Addr} {m : Str → Option Value} {s : Shared} {Q E : Value → Shared → Prop} {news : List (Addr × Obj)}
theorem afs_ct {Tt Ts dt ds : Addr} {ot os : Obj} {kt : List (Int × Value)} {k c a0 a1 a2 a3 b0 b1 b2 b3 : Int} {u p0 p1 p2 p3 q0 q1 q2 q3 : Tok} (B : Below A₀ base outer h₀) (F : Fr h₀ L s.heap m)
    (N : News h₀ L s.heap ((dt, ot) :: (ds, os) :: (Tt, ({ cls := .type "tuple", data := .seq #[.int a0 p0, .int a1 p1, .int a2 p2, .int a3 p3, .ref dt] } : Obj)) :: (Ts, ({ cls := .type "tuple", data := .seq #[.int b0 q0, .int b1 q1, .int b2 q2, .int b3 q3, .ref ds] } : Obj)) :: news)) (T : TopRead hd.view_39 (looseW hd.view_39 [Str.ofString "_twin_re_1", Str.ofString "_twin_re_2"]) mg mb h₀)
    (hk : cs.kind = .function) (hdp : dp + 7 < recursionLimit) (hun : un + 300 < cLine)
    (hdt : ot.IsDictOf (PySem.intKind Challenge.rw_pg0093_01.row.prog w) kt) (hds : os.IsDictOf (PySem.intKind Challenge.rw_pg0093_01.row.prog w) [(k, .int c u)]) (lot : (dt == sysModules) = false) (los : (ds == sysModules) = false) (hlen : kt.length ≤ 100) (hints : ∀ p ∈ kt, ∃ c t, p.2 = .int c t)
    (hret : ∀ T' D o v t0 t1 t2 t3 h' tk', Fr h₀ L h' m → News h₀ L h' ((T', ({ cls := .type "tuple", data := .seq #[.int (b0 + a0) t0, .int (b1 + a1) t1, .int (b2 + a2) t2, .int (b3 + a3) t3, .ref D] } : Obj)) :: (D, o) :: (dt, ot) :: (ds, os) :: news) → (D == sysModules) = false → o.IsDictOf (PySem.intKind Challenge.rw_pg0093_01.row.prog w) (stored kt k v) →
      (match valueAt kt k with | none => ∃ t, v = .int c t | some x => ∃ c0 t0 t, x = .int c0 t0 ∧ v = .int (c0 + c) t) → Q (.ref T') { s with heap := h', toks := tk' }) :
    (hd.heap_39 w.params).In h₀ → wpAny (model Challenge.rw_pg0093_01.row.prog w) (ktrTop dp un gd cn cs L a ccd cl outer) (call (.ref 52) [.ref Tt, .ref Ts]) Q E s := by
  k_fill
  intro X
  refine wpAny_call ?_
  k_dflt (walk_at "cell_enterR")
  k_steps
  rename Fr _ _ _ _ => F9
  rename News _ _ _ _ => N9
  with_unfolding_all (refine' addI_ct ?B F9 N9 ?T rfl ?d ?u hdt hds lot los hlen hints ?_ ?X)
  case B => assumption
  case T => assumption
  case X => assumption
  case d => dsimp only [ktrTop]; omega
  case u => dsimp only [ktrTop]; omega
  clear F9 N9
  intro D o v h' tk' F' N' lo' hd' hv'
  k_steps
  rename Fr _ _ _ _ => F9
  rename News _ _ _ _ => N9
  exact hret _ _ _ _ _ _ _ _ _ _ F9 (nc N9 (.head _) (nc N9 (.tail _ (.head _)) (nc N9 (.tail _ (.tail _ (.head _))) (nc N9 (.tail _ (.tail _ (.tail _ (.head _)))) (nd (nd (nd (nd (nd (nd N9)))))))))) lo' hd' hv'
end
end Mine
end
-- G1
section
open PySem PySem.W PySem.Calls PyProof.Rows
set_option maxRecDepth 100000
namespace Mine
section
variable {prog : Program} {w : World} {A : Around} {E : Value → Shared → Prop} {s : Shared} {env : Env} {h₀ : Heap} {target : Expr} {body : List Stmt} {Q : Flow → Shared → Prop}
/-- a loop whose turns may change the whole state -/
noncomputable def LoopG (prog : Program) (w : World) (A : Around) (env : Env) (target : Expr) (body : List Stmt) (Q : Flow → Shared → Prop) (E : Value → Shared → Prop) (it : Value) (s₂ : Shared) : Prop :=
  ∃ (I : Addr) (fp wr : List Addr) (n : Nat) (P Md : Nat → Value → Heap → Prop) (St : Nat → Heap → Prop) (J : Nat → Shared → Prop),
    it = .ref I ∧ KTurns prog w A target I fp wr n P Md St ∧ St 0 s₂.heap ∧ J 0 s₂ ∧
    (∀ i (s : Shared) h' tk, J i s → (∀ b o, b ∉ wr → s.heap.get? b = some o → h'.get? b = some o) → J i { s with heap := h', toks := tk }) ∧
    (∀ i v (s₁ : Shared), i < n → P i v s₁.heap → J i s₁ → St (i + 1) s₁.heap → wpAny (model prog w) A (assign target env v) (fun _ s₃ => wpAny (model prog w) A (execs body env) (fun f s₄ => match f with
      | .ret v => Q (.ret v) s₄
      | .brk => Q .next s₄
      | _ => J (i + 1) s₄ ∧ St (i + 1) s₄.heap) E s₃) E s₁) ∧
    ∀ s', J n s' → Q .next s'
theorem For_G {iter : Expr} {pos : Pos} (h : wpAny (model prog w) A (eval iter env) (fun xv s₁ => wpAny (model prog w) A (pyIter xv) (fun it s₂ => LoopG prog w A env target body Q E it s₂) E s₁) E s)
    (hs : ∀ x, foldedSetIterable iter env x = pure x := by intro _; rfl) (hE : PassesOwn (model prog w) A env E := by passes_own) :
    wpAny (model prog w) A (exec (.For target iter body [] pos) env) Q E s := by
  refine wpAny_For (wpAny_mono h (fun xv s₁ h₁ => wpAny_mono h₁ (fun it s₂ h₂ => ?_) fun _ _ e => e) fun _ _ e => e) hs
  obtain ⟨I, fp, wr, n, P, Md, St, J, rfl, W, hst, h0, stay, step, hQ⟩ := h₂
  refine codeAny_forLoop_any (fun k s' => ∃ i, i ≤ n ∧ k = n + 1 - i ∧ St i s'.heap ∧ J i s') ?_ (n + 1) ⟨0, Nat.zero_le _, rfl, hst, h0⟩
  rintro k s' ⟨i, hi, rfl, hst', hJ⟩
  by_cases hlt : i < n
  · refine W.item i _ _ _ hlt hst' fun v h₁ tk₁ hMd hk₁ => ?_
    refine W.go i v _ _ _ hMd fun h₂ hP hst₂ hk₂ => ?_
    have hJ₂ : J i { s' with heap := h₂, toks := tk₁ } := stay i s' h₂ tk₁ hJ fun b o hb x => hk₂ b o hb (hk₁ b o hb x)
    refine wpAny_mono (step i v _ hlt hP hJ₂ hst₂) (fun _ s₃ h₃ => ?_) hE
    refine wpAny_mono h₃ (fun f s₄ h₄ => ?_) hE
    cases f with
    | ret v => exact h₄
    | brk => exact h₄
    | next => exact ⟨n + 1 - (i + 1), by omega, i + 1, hlt, rfl, h₄.2, h₄.1⟩
    | cont => exact ⟨n + 1 - (i + 1), by omega, i + 1, hlt, rfl, h₄.2, h₄.1⟩
  · have hin : i = n := by omega
    subst hin
    refine W.done _ _ _ hst' fun h₁ tk₁ hk₁ => wpAny_execs_nil ?_
    exact hQ _ (stay _ s' h₁ tk₁ hJ hk₁)

noncomputable def UpdPostG {σ : Type} (m₀ : Str → Option Value) (vals : σ → List (Str × Option Value)) (nOf : σ → List (Addr × Obj)) (Inv : σ → Prop) (h₀ : Heap) (L I : Addr) (oI : Obj) (s₁ : Shared) (Q : Flow → Shared → Prop) (f : Flow) (s₂ : Shared) : Prop :=
  match f with
  | .ret v => Q (.ret v) s₂
  | .brk => Q .next s₂
  | _ => ∃ m₂ a, AllBare s₂.gens ∧ s₂.os = s₁.os ∧ Fr h₀ L s₂.heap m₂ ∧ (∀ z, m₂ z = upd m₀ (vals a) z) ∧ News h₀ L s₂.heap ((I, oI) :: nOf a) ∧ Off I (nOf a) ∧ Inv a
theorem UpdPostG.fin {σ : Type} {m₀ : Str → Option Value} {vals : σ → List (Str × Option Value)} {nOf : σ → List (Addr × Obj)} {Inv : σ → Prop} {L I : Addr} {oI : Obj} {s₁ s₂ : Shared} {m₂ : Str → Option Value} (a : σ) (G : AllBare s₂.gens) (ho : s₂.os = s₁.os)
    (F : Fr h₀ L s₂.heap m₂) (hv : AllVals m₂ (vals a)) (hm : ∀ z, (∀ p ∈ vals a, z ≠ p.1) → m₂ z = m₀ z) (N : News h₀ L s₂.heap ((I, oI) :: nOf a)) (hof : Off I (nOf a)) (hI : Inv a) : UpdPostG m₀ vals nOf Inv h₀ L I oI s₁ Q .next s₂ := ⟨m₂, a, G, ho, F, upd_of hv hm, N, hof, hI⟩
theorem loop_updG {σ : Type} (vals : σ → List (Str × Option Value)) (nOf : σ → List (Addr × Obj)) (Inv : Nat → σ → Prop) (a₀ : σ) {I d : Addr} {od : Obj} {n : Nat} {P Md : Nat → Value → Heap → Prop} {St : Nat → Heap → Prop} {m₀ : Str → Option Value} (cl : Obj → Prop)
    (W : KTurns prog w A target I [I, d] [I] n P Md St) (hI0 : h₀.get? I = none) (hIL : env.locals ≠ I) (hst : St 0 s.heap) (G : AllBare s.gens)
    (F : Fr h₀ env.locals s.heap (upd m₀ (vals a₀))) (N : News h₀ env.locals s.heap (nOf a₀)) (hoff : Off I (nOf a₀)) (hinv : Inv 0 a₀) (hkeep : ∀ i a, Inv i a → (d, od) ∈ nOf a) (hcls : ∀ i h, St i h → ∃ o, h.get? I = some o ∧ cl o)
    (turn : ∀ i v a (s₁ : Shared) oI, i < n → P i v s₁.heap → Inv i a → s₁.os = s.os → AllBare s₁.gens → Off I (nOf a) → cl oI → Fr h₀ env.locals s₁.heap (upd m₀ (vals a)) → News h₀ env.locals s₁.heap ((I, oI) :: nOf a) →
      wpAny (model prog w) A (assign target env v) (fun _ s₃ => wpAny (model prog w) A (execs body env) (UpdPostG m₀ vals nOf (Inv (i + 1)) h₀ env.locals I oI s₁ Q) E s₃) E s₁)
    (done : ∀ a (s' : Shared), Inv n a → s'.os = s.os → AllBare s'.gens → Fr h₀ env.locals s'.heap (upd m₀ (vals a)) → News h₀ env.locals s'.heap (nOf a) → Q .next s') :
    LoopG prog w A env target body Q E (.ref I) s := by
  refine ⟨I, [I, d], [I], n, P, Md, St, fun i s' => ∃ a, s'.os = s.os ∧ AllBare s'.gens ∧ Fr h₀ env.locals s'.heap (upd m₀ (vals a)) ∧ News h₀ env.locals s'.heap (nOf a) ∧ Off I (nOf a) ∧ Inv i a, rfl, W, hst, ⟨a₀, rfl, G, F, N, hoff, hinv⟩, ?_, ?_, ?_⟩
  · rintro i s' h' tk ⟨a, e1, G', F', N', ho', hI'⟩ hk
    have old : ∀ b o, h₀.get? b = some o → b ∉ [I] := fun b o e hb => by rw [List.mem_singleton.mp hb, hI0] at e; cases e
    exact ⟨a, e1, G', ⟨F'.ns.at' fun o e => hk _ o (fun hb => hIL (List.mem_singleton.mp hb)) e, fun b o e => hk b o (old b o e) (F'.keep b o e), F'.above⟩,
      fun p hp => ⟨hk _ _ (fun hb => ho' p hp (List.mem_singleton.mp hb)) (N' p hp).1, (N' p hp).2⟩, ho', hI'⟩
  · rintro i v s₁ hi hP ⟨a, e1, G', F', N', ho', hI'⟩ hst'
    obtain ⟨oI, hoI, hco⟩ := hcls _ _ hst'
    have NI : News h₀ env.locals s₁.heap ((I, oI) :: nOf a) := fun p hp => by
      rcases List.mem_cons.mp hp with rfl | hp
      · exact ⟨hoI, fun e => hIL e.symm, hI0⟩
      · exact N' p hp
    refine wpAny_mono (turn i v a s₁ oI hi hP hI' e1 G' ho' hco F' NI) (fun _ s₃ p => wpAny_mono p (fun f s₄ q => ?_) fun _ _ e => e) fun _ _ e => e
    have fin : (∃ m₂ a, AllBare s₄.gens ∧ s₄.os = s₁.os ∧ Fr h₀ env.locals s₄.heap m₂ ∧ (∀ z, m₂ z = upd m₀ (vals a) z) ∧ News h₀ env.locals s₄.heap ((I, oI) :: nOf a) ∧ Off I (nOf a) ∧ Inv (i + 1) a) →
        (∃ a, s₄.os = s.os ∧ AllBare s₄.gens ∧ Fr h₀ env.locals s₄.heap (upd m₀ (vals a)) ∧ News h₀ env.locals s₄.heap (nOf a) ∧ Off I (nOf a) ∧ Inv (i + 1) a) ∧ St (i + 1) s₄.heap := by
      rintro ⟨m₂, a', G₂, f1, F₂, hm₂, N₂, ho₂, hI₂⟩
      refine ⟨⟨a', f1.trans e1, G₂, funext hm₂ ▸ F₂, fun p hp => N₂ p (List.mem_cons_of_mem _ hp), ho₂, hI₂⟩, W.frame _ _ _ hst' fun b hb o e => ?_⟩
      rcases List.mem_cons.mp hb with rfl | hb
      · have := (N₂ _ (List.mem_cons_self ..)).1
        rw [hoI] at e
        exact (Option.some.inj e) ▸ this
      · rw [List.mem_singleton.mp hb] at e ⊢
        have h1 := (N' _ (hkeep _ _ hI')).1
        rw [h1] at e
        exact (Option.some.inj e) ▸ (N₂ _ (List.mem_cons_of_mem _ (hkeep _ _ hI₂))).1
    cases f with
    | ret v => exact q
    | brk => exact q
    | next => exact fin q
    | cont => exact fin q
  · rintro s' ⟨a, e1, G', F', N', _, hI'⟩
    exact done a s' hI' e1 G' F' N'
theorem items_updG {σ : Type} (vals : σ → List (Str × Option Value)) (nOf : σ → List (Addr × Obj)) (Inv : Nat → σ → Prop) (a₀ : σ) {elts : List Expr} {kk : Nat} {pos : Pos} {d vw : Addr} {od : Obj} {kvs : List (Int × Value)} {m₀ : Str → Option Value} {news : List (Addr × Obj)}
    (hh : A.handled = none) (F : Fr h₀ env.locals s.heap m₀) (N : News h₀ env.locals s.heap news) (G : AllBare s.gens) (hvw : ∃ ov, s.heap.get? vw = some ov ∧ ov.cls = .type "dict_items" ∧ ov.data = .fields #[.ref d]) (hm : (d, od) ∈ news) (hd : od.IsDictOf (PySem.intKind prog w) kvs)
    (hm0 : AllVals m₀ (vals a₀)) (hn0 : nOf a₀ = news) (hj : Inv 0 a₀) (hkeep : ∀ i a, Inv i a → (d, od) ∈ nOf a)
    (turn : ∀ I i k x a (s₁ : Shared) T t oI, kvs[i]? = some (k, x) → Inv i a → s₁.os = s.os → AllBare s₁.gens → Off I (nOf a) → oI.cls = .type "dict_itemiterator" → IsTup s₁.heap T #[.int k t, x] →
      Fr h₀ env.locals s₁.heap (upd m₀ (vals a)) → News h₀ env.locals s₁.heap ((I, oI) :: nOf a) →
      wpAny (model prog w) A (assign (.Tuple elts kk pos) env (.ref T)) (fun _ s₂ => wpAny (model prog w) A (execs body env) (UpdPostG m₀ vals nOf (Inv (i + 1)) h₀ env.locals I oI s₁ Q) E s₂) E s₁)
    (done : ∀ a (s' : Shared), Inv kvs.length a → s'.os = s.os → AllBare s'.gens → Fr h₀ env.locals s'.heap (upd m₀ (vals a)) → News h₀ env.locals s'.heap (nOf a) → Q .next s') :
    wpAny (model prog w) A (pyIter (.ref vw)) (fun it s₂ => LoopG prog w A env (.Tuple elts kk pos) body Q E it s₂) E s := by
  obtain ⟨ep, hat⟩ := (kda_dict N hm hd).dictAt
  have hne : d ≠ s.heap.objs.size := Nat.ne_of_lt hat.lt_size
  refine wpAny_pyIter_items hvw hat ?_
  have e : m₀ = upd m₀ (vals a₀) := funext (upd_of hm0 fun _ _ => rfl)
  refine loop_updG vals nOf Inv a₀ (m₀ := m₀) (od := od) (fun o => o.cls = .type "dict_itemiterator") (kti_itemsTurns (knd := PySem.intKind prog w) hh s.heap.objs.size d hne kvs ep) (next_is_new F) (fun q => absurd F.ns.lt (q ▸ Nat.lt_irrefl _)) ⟨⟨.none, .none, Heap.get?_push_size _ rfl⟩, hat.push _⟩ G
    (e ▸ F.push _) (fun p hp => by rw [hn0] at hp; exact ⟨Heap.get?_push_of_some _ (N p hp).1, (N p hp).2⟩) (fun p hp q => by rw [hn0] at hp; exact absurd (Heap.lt_size (N p hp).1) (q ▸ Nat.lt_irrefl _)) hj hkeep ?_ ?_ done
  · rintro i h ⟨⟨ok, ov, he⟩, _⟩
    exact ⟨_, he, rfl⟩
  · rintro i v a s₁ oI hi ⟨T, key, k, x, rfl, hx, hk, hT⟩ hI' e1 G' ho hc F' N'
    obtain ⟨t, rfl⟩ := Value.isInt_shape hk
    exact turn _ i k x a s₁ T t oI hx hI' e1 G' ho hc hT F' N'
theorem list_updG {σ : Type} (vals : σ → List (Str × Option Value)) (nOf : σ → List (Addr × Obj)) (Inv : Nat → σ → Prop) (a₀ : σ) {l : Addr} {vs : List Value} {nn : Nat} {m₀ : Str → Option Value} {news : List (Addr × Obj)}
    (hh : A.handled = none) (F : Fr h₀ env.locals s.heap m₀) (N : News h₀ env.locals s.heap news) (G : AllBare s.gens) (hm : (l, listObj vs nn) ∈ news)
    (hm0 : AllVals m₀ (vals a₀)) (hn0 : nOf a₀ = news) (hj : Inv 0 a₀) (hkeep : ∀ i a, Inv i a → (l, listObj vs nn) ∈ nOf a)
    (turn : ∀ I i v a (s₁ : Shared) oI, vs[i]? = some v → Inv i a → s₁.os = s.os → AllBare s₁.gens → Off I (nOf a) → oI.cls = .type "list_iterator" →
      Fr h₀ env.locals s₁.heap (upd m₀ (vals a)) → News h₀ env.locals s₁.heap ((I, oI) :: nOf a) →
      wpAny (model prog w) A (assign target env v) (fun _ s₂ => wpAny (model prog w) A (execs body env) (UpdPostG m₀ vals nOf (Inv (i + 1)) h₀ env.locals I oI s₁ Q) E s₂) E s₁)
    (done : ∀ a (s' : Shared), Inv vs.length a → s'.os = s.os → AllBare s'.gens → Fr h₀ env.locals s'.heap (upd m₀ (vals a)) → News h₀ env.locals s'.heap (nOf a) → Q .next s') :
    wpAny (model prog w) A (pyIter (.ref l)) (fun it s₂ => LoopG prog w A env target body Q E it s₂) E s := by
  have ho := N.get hm
  have hls : s.heap.IsList l vs.toArray := ⟨_, ho, rfl, nn, rfl⟩
  have hne : l ≠ s.heap.objs.size := Nat.ne_of_lt (Heap.lt_size ho)
  refine wpAny_pyIter_list hls ?_
  have W := Walks.list (prog := prog) (w := w) hh s.heap.objs.size l hne vs.toArray
  have hlen : vs.toArray.size = vs.length := by simp
  rw [hlen] at W
  have e : m₀ = upd m₀ (vals a₀) := funext (upd_of hm0 fun _ _ => rfl)
  refine loop_updG vals nOf Inv a₀ (m₀ := m₀) (od := listObj vs nn) (fun o => o.cls = .type "list_iterator") (KTurns.ofWalks W fun i v s Q E st q => letGo_listiter st.1 q) (next_is_new F) (fun q => absurd F.ns.lt (q ▸ Nat.lt_irrefl _)) ⟨⟨_, Heap.get?_push_size _ rfl, rfl, rfl⟩, hls.at fun o e => Heap.get?_push_of_some _ e⟩ G
    (e ▸ F.push _) (fun p hp => by rw [hn0] at hp; exact ⟨Heap.get?_push_of_some _ (N p hp).1, (N p hp).2⟩) (fun p hp q => by rw [hn0] at hp; exact absurd (Heap.lt_size (N p hp).1) (q ▸ Nat.lt_irrefl _)) hj hkeep ?_ ?_ done
  · rintro i h ⟨⟨o, g, c, _⟩, _⟩
    exact ⟨o, g, c⟩
  · rintro i v a s₁ oI hi hP hI' e1 G' ho hc F' N'
    exact turn _ i v a s₁ oI (by simpa using hP) hI' e1 G' ho hc F' N'
end
end Mine
end
-- G2
section
open PySem PySem.W PySem.Calls PyProof.Rows
set_option maxRecDepth 100000
namespace Mine
section
variable {prog : Program} {w : World} {A : Around} {E : Value → Shared → Prop} {s : Shared} {env : Env} {h₀ : Heap} {target : Expr} {body : List Stmt} {Q : Flow → Shared → Prop}
theorem loop_updR {σ : Type} (vals : σ → List (Str × Option Value)) (nOf : σ → List (Addr × Obj)) (Inv : Nat → σ → Prop) (a₀ : σ) {I : Addr} {n : Nat} {P Md : Nat → Value → Heap → Prop} {St : Nat → Heap → Prop} {m₀ : Str → Option Value} (cl : Obj → Prop)
    (W : KTurns prog w A target I [I] [I] n P Md St) (hI0 : h₀.get? I = none) (hIL : env.locals ≠ I) (hst : St 0 s.heap) (G : AllBare s.gens)
    (F : Fr h₀ env.locals s.heap (upd m₀ (vals a₀))) (N : News h₀ env.locals s.heap (nOf a₀)) (hoff : Off I (nOf a₀)) (hinv : Inv 0 a₀) (hcls : ∀ i h, St i h → ∃ o, h.get? I = some o ∧ cl o)
    (turn : ∀ i v a (s₁ : Shared) oI, i < n → P i v s₁.heap → Inv i a → s₁.os = s.os → AllBare s₁.gens → Off I (nOf a) → cl oI → Fr h₀ env.locals s₁.heap (upd m₀ (vals a)) → News h₀ env.locals s₁.heap ((I, oI) :: nOf a) →
      wpAny (model prog w) A (assign target env v) (fun _ s₃ => wpAny (model prog w) A (execs body env) (UpdPostG m₀ vals nOf (Inv (i + 1)) h₀ env.locals I oI s₁ Q) E s₃) E s₁)
    (done : ∀ a (s' : Shared), Inv n a → s'.os = s.os → AllBare s'.gens → Fr h₀ env.locals s'.heap (upd m₀ (vals a)) → News h₀ env.locals s'.heap (nOf a) → Q .next s') :
    LoopG prog w A env target body Q E (.ref I) s := by
  refine ⟨I, [I], [I], n, P, Md, St, fun i s' => ∃ a, s'.os = s.os ∧ AllBare s'.gens ∧ Fr h₀ env.locals s'.heap (upd m₀ (vals a)) ∧ News h₀ env.locals s'.heap (nOf a) ∧ Off I (nOf a) ∧ Inv i a, rfl, W, hst, ⟨a₀, rfl, G, F, N, hoff, hinv⟩, ?_, ?_, ?_⟩
  · rintro i s' h' tk ⟨a, e1, G', F', N', ho', hI'⟩ hk
    have old : ∀ b o, h₀.get? b = some o → b ∉ [I] := fun b o e hb => by rw [List.mem_singleton.mp hb, hI0] at e; cases e
    exact ⟨a, e1, G', ⟨F'.ns.at' fun o e => hk _ o (fun hb => hIL (List.mem_singleton.mp hb)) e, fun b o e => hk b o (old b o e) (F'.keep b o e), F'.above⟩,
      fun p hp => ⟨hk _ _ (fun hb => ho' p hp (List.mem_singleton.mp hb)) (N' p hp).1, (N' p hp).2⟩, ho', hI'⟩
  · rintro i v s₁ hi hP ⟨a, e1, G', F', N', ho', hI'⟩ hst'
    obtain ⟨oI, hoI, hco⟩ := hcls _ _ hst'
    have NI : News h₀ env.locals s₁.heap ((I, oI) :: nOf a) := fun p hp => by
      rcases List.mem_cons.mp hp with rfl | hp
      · exact ⟨hoI, fun e => hIL e.symm, hI0⟩
      · exact N' p hp
    refine wpAny_mono (turn i v a s₁ oI hi hP hI' e1 G' ho' hco F' NI) (fun _ s₃ p => wpAny_mono p (fun f s₄ q => ?_) fun _ _ e => e) fun _ _ e => e
    have fin : (∃ m₂ a, AllBare s₄.gens ∧ s₄.os = s₁.os ∧ Fr h₀ env.locals s₄.heap m₂ ∧ (∀ z, m₂ z = upd m₀ (vals a) z) ∧ News h₀ env.locals s₄.heap ((I, oI) :: nOf a) ∧ Off I (nOf a) ∧ Inv (i + 1) a) →
        (∃ a, s₄.os = s.os ∧ AllBare s₄.gens ∧ Fr h₀ env.locals s₄.heap (upd m₀ (vals a)) ∧ News h₀ env.locals s₄.heap (nOf a) ∧ Off I (nOf a) ∧ Inv (i + 1) a) ∧ St (i + 1) s₄.heap := by
      rintro ⟨m₂, a', G₂, f1, F₂, hm₂, N₂, ho₂, hI₂⟩
      refine ⟨⟨a', f1.trans e1, G₂, funext hm₂ ▸ F₂, fun p hp => N₂ p (List.mem_cons_of_mem _ hp), ho₂, hI₂⟩, W.frame _ _ _ hst' fun b hb o e => ?_⟩
      rw [List.mem_singleton.mp hb] at e ⊢
      have := (N₂ _ (List.mem_cons_self ..)).1
      rw [hoI] at e
      exact (Option.some.inj e) ▸ this
    cases f with
    | ret v => exact q
    | brk => exact q
    | next => exact fin q
    | cont => exact fin q
  · rintro s' ⟨a, e1, G', F', N', _, hI'⟩
    exact done a s' hI' e1 G' F' N'
theorem range_updG {x : Str} {px : Pos} {σ : Type} (vals : σ → List (Str × Option Value)) (nOf : σ → List (Addr × Obj)) (Inv : Nat → σ → Prop) (a₀ : σ) {r : Addr} {lo b : Int} {t u v : Tok} {n : Nat} {m₀ : Str → Option Value} {news : List (Addr × Obj)}
    (hh : A.handled = none) (F : Fr h₀ env.locals s.heap m₀) (N : News h₀ env.locals s.heap news) (G : AllBare s.gens) (hr : IsRange s.heap r lo b 1 t u v) (hsm : Builtin.Range.small lo b 1 = true) (hn : Builtin.Range.rangeSize lo b 1 = ((n : Nat) : Int))
    (hm0 : AllVals m₀ (vals a₀)) (hn0 : nOf a₀ = news) (hj : Inv 0 a₀)
    (turn : ∀ I i t a (s₁ : Shared) oI, i < n → Inv i a → s₁.os = s.os → AllBare s₁.gens → Off I (nOf a) → oI.cls = .type "range_iterator" →
      Fr h₀ env.locals s₁.heap (upd m₀ (vals a)) → News h₀ env.locals s₁.heap ((I, oI) :: nOf a) →
      wpAny (model prog w) A (assign (.Name x px) env (.int (lo + (i : Int)) t)) (fun _ s₂ => wpAny (model prog w) A (execs body env) (UpdPostG m₀ vals nOf (Inv (i + 1)) h₀ env.locals I oI s₁ Q) E s₂) E s₁)
    (done : ∀ a (s' : Shared), Inv n a → s'.os = s.os → AllBare s'.gens → Fr h₀ env.locals s'.heap (upd m₀ (vals a)) → News h₀ env.locals s'.heap (nOf a) → Q .next s') :
    wpAny (model prog w) A (pyIter (.ref r)) (fun it s₂ => LoopG prog w A env (.Name x px) body Q E it s₂) E s := by
  refine wpAny_pyIter_range hr hsm ?_
  have e : m₀ = upd m₀ (vals a₀) := funext (upd_of hm0 fun _ _ => rfl)
  refine loop_updR vals nOf Inv a₀ (m₀ := m₀) (fun o => o.cls = .type "range_iterator") (KTurns.ofWalks (LCg.range_walks hh lo n) fun i v s Q E st q => ?_) (next_is_new F) (fun q => absurd F.ns.lt (q ▸ Nat.lt_irrefl _)) (by show IsRangeIter _ _ _ _ _; rw [hn]; simpa using Heap.get?_push_size _ rfl) G
    (e ▸ F.push _) (fun p hp => by rw [hn0] at hp; exact ⟨Heap.get?_push_of_some _ (N p hp).1, (N p hp).2⟩) (fun p hp q => by rw [hn0] at hp; exact absurd (Heap.lt_size (N p hp).1) (q ▸ Nat.lt_irrefl _)) hj ?_ ?_ done
  · unfold letOwnedTupleGo
    exact wpAny_pure q
  · intro i h st
    exact ⟨_, st, rfl⟩
  · rintro i v a s₁ oI hi ⟨t', rfl⟩ hI' e1 G' ho hc F' N'
    exact turn _ i t' a s₁ oI hi hI' e1 G' ho hc F' N'
end
section
open LCg
variable {prog : Program} {w : World} {A : Around} {E : Value → Shared → Prop} {s : Shared} {h₀ : Heap} {L : Addr} {m : Str → Option Value} {env : Env}
noncomputable def CompPost {σ : Type} (nOf : σ → List (Addr × Obj)) (yOf : σ → List Value) (Inv : σ → Prop) (h₀ : Heap) (L : Addr) (m : Str → Option Value) (s₁ : Shared) (I : Addr) (oI : Obj) (C : Addr) (oC : Obj) (D : Addr) (ys : List Value) (S : List (Addr × Obj) → Prop) (y : Value) (s₂ : Shared) : Prop :=
  ∃ h' tk a, s₂ = { s₁ with heap := h', toks := tk } ∧ Fr h₀ L h' m ∧ News h₀ L h' ((I, oI) :: (C, oC) :: (D, lst ys) :: nOf a) ∧ Off3 I C D (nOf a) ∧ S (nOf a) ∧ yOf a = ys ++ [y] ∧ Inv a
/-- a list comprehension whose turns add to the ledger, by a state -/
theorem comp_upd {σ : Type} (nOf : σ → List (Addr × Obj)) (yOf : σ → List Value) (Inv : Nat → σ → Prop) {elt : Expr} {x : Str} {scope : Scope} {cl : List (Str × Addr)} {S : List (Addr × Obj) → Prop} {P : Nat → Value → Prop} {Fin : List Value → List (Addr × Obj) → Prop} {n : Nat}
    (turn : ∀ i v a I oI C oC D m₂ h tk (E' : Value → Shared → Prop), i < n → P i v → Inv i a → NsObj oC m₂ → m₂ x = some v → Fr h₀ L h m → News h₀ L h ((I, oI) :: (C, oC) :: (D, lst (yOf a)) :: nOf a) → Off3 I C D (nOf a) → ((@Ne Nat I C) ∧ (@Ne Nat I D) ∧ (@Ne Nat C D)) →
      wpAny (model prog w) A (eval elt (compEnvC scope cl C env)) (CompPost nOf yOf (Inv (i + 1)) h₀ L m { s with heap := h, toks := tk } I oI C oC D (yOf a) S) E' { s with heap := h, toks := tk })
    (fin : ∀ a, Inv n a → Fin (yOf a) (nOf a)) : ∀ k i a, i + k = n → Inv i a → CompRest prog w A h₀ L m env elt x scope cl s S P Fin k i (yOf a) (nOf a)
  | 0, i, a, e, hI => by
    have : i = n := by omega
    subst this
    exact fin a hI
  | k + 1, i, a, e, hI => by
    refine CompRest.succ fun v I oI C oC D m₂ h tk E' hP hC hx F N ho hne => ?_
    refine wpAny_mono (turn i v a I oI C oC D m₂ h tk E' (by omega) hP hI hC hx F N ho hne) (fun y s₂ q => ?_) fun _ _ e => e
    obtain ⟨h', tk', a', rfl, F', N', ho', hS, hy, hI'⟩ := q
    refine ⟨h', tk', nOf a', rfl, F', N', ho', hS, ?_⟩
    show CompRest prog w A h₀ L m env elt x scope cl s S P Fin k (i + 1) (yOf a ++ [y]) (nOf a')
    rw [← hy]
    exact comp_upd nOf yOf Inv turn fin k (i + 1) a' (by omega) hI'
end
end Mine
end
-- Z1
section
open PySem PySem.W PySem.Calls PyProof.Rows
set_option maxRecDepth 100000
namespace Mine
section
variable {prog : Program} {w : World} {A : Around} {E : Value → Shared → Prop} {s : Shared}
theorem nextOf_tup_item {it t : Addr} {i : Nat} {items : Array Value} {x : Value} {Q : Value → Shared → Prop} (hit : s.heap.IsTupleIter it t i) (ht : s.heap.IsTuple t items) (hx : items[i]? = some x)
    (hQ : ∀ h', h'.IsTupleIter it t (i + 1) → Heap.SameBut it s.heap h' → Q x { s with heap := h' }) : wpAny (model prog w) A (Builtin.SmallTypes.nextOf (.ref it)) Q E s := by
  obtain ⟨o, ho, hc, hd⟩ := id hit
  obtain ⟨ol, hol, _, nl, hdl⟩ := ht
  unfold Builtin.SmallTypes.nextOf
  refine wpAny_bind (wpAny_callSpecial?_slot (name := Str.ofString "__next__") hit.typeIs PySem.F.slot_tuple_iterator_next
    (wpAny_call_entry PySem.F.slot_tuple_iterator_next hit.typeIs PySem.F.entry_tuple_iterator_next ?_ (PySem.F.args_tuple_iterator_next_1 _)))
  show wpAny _ _ (field (.ref it) 0 >>= _) _ _ s
  refine wpAny_bind (wpAny_field ho hd (x := .ref t) rfl ?_)
  show wpAny _ _ (if (Value.ref t == Value.none) = true then _ else _) _ _ s
  rw [if_neg (show ¬ ((Value.ref t == Value.none) = true) from Bool.false_ne_true)]
  show wpAny _ _ (field (.ref it) 1 >>= _) _ _ s
  refine wpAny_bind (wpAny_field ho hd (x := .int i 0) rfl ?_)
  show wpAny _ _ (seqItems? (.ref t) >>= _) _ _ s
  refine wpAny_bind (wpAny_seqItems hol hdl ?_)
  simp only [Int.toNat_natCast, hx]
  refine wpAny_bind (wpAny_setField ho hd (by simp) (wpAny_pure ⟨x, rfl, wpAny_pure (hQ _ ?_ (Heap.SameBut.update ..))⟩))
  exact ⟨_, Heap.get?_update_self _ ho (Obj.isFreed_of_fields (Obj.data_mapFields hd _)), (Obj.cls_mapFields ..).trans hc, by
    rw [Obj.data_mapFields hd]; simp [rawInt]⟩
theorem nextOf_tup_end {it t : Addr} {i : Nat} {items : Array Value} {Q : Value → Shared → Prop} (hh : A.handled = none) (hit : s.heap.IsTupleIter it t i) (ht : s.heap.IsTuple t items) (hx : items[i]? = none)
    (hE : ∀ h' e, Heap.ExtBut it s.heap h' → (∃ o, h'.get? e = some o ∧ o.cls = .type "StopIteration") → E (.ref e) { s with heap := h' }) : wpAny (model prog w) A (Builtin.SmallTypes.nextOf (.ref it)) Q E s := by
  obtain ⟨o, ho, hc, hd⟩ := id hit
  obtain ⟨ol, hol, _, nl, hdl⟩ := ht
  unfold Builtin.SmallTypes.nextOf
  refine wpAny_bind (wpAny_callSpecial?_slot (name := Str.ofString "__next__") hit.typeIs PySem.F.slot_tuple_iterator_next
    (wpAny_call_entry PySem.F.slot_tuple_iterator_next hit.typeIs PySem.F.entry_tuple_iterator_next ?_ (PySem.F.args_tuple_iterator_next_1 _)))
  show wpAny _ _ (field (.ref it) 0 >>= _) _ _ s
  refine wpAny_bind (wpAny_field ho hd (x := .ref t) rfl ?_)
  show wpAny _ _ (if (Value.ref t == Value.none) = true then _ else _) _ _ s
  rw [if_neg (show ¬ ((Value.ref t == Value.none) = true) from Bool.false_ne_true)]
  show wpAny _ _ (field (.ref it) 1 >>= _) _ _ s
  refine wpAny_bind (wpAny_field ho hd (x := .int i 0) rfl ?_)
  show wpAny _ _ (seqItems? (.ref t) >>= _) _ _ s
  refine wpAny_bind (wpAny_seqItems hol hdl ?_)
  simp only [Int.toNat_natCast, hx]
  refine wpAny_bind (wpAny_rule (wpAny_bind (wpAny_setField ho hd (by simp) ?_)))
  show wpAny _ _ (newExc (.type "StopIteration") [] >>= _) _ _ _
  refine wpAny_bind ?_
  simp only [newExc, newTuple]
  refine wpAny_bind (wpAny_newObj_type ?_ (by size_fits))
  refine wpAny_bind (m := firstArgMember _ _) (wpAny_of_eq (a := Value.none) (by first | rfl | (simp only [firstArgMember]; rfl)) ?_)
  refine wpAny_newObj_type ?_ (by size_fits)
  simp only [raiseNew]
  refine wpAny_bind (wpAny_handled ?_)
  first | rw [show A.in1.handled = none from hh] | rw [hh]
  refine wpAny_bind (wpAny_pure (wpAny_throw ?_))
  exact hE _ _ (((Heap.SameBut.update ..).extBut.push _).push _) ⟨_, Heap.get?_push_size _ rfl, rfl⟩
end
/-- a zip of two tuples, k of the pairs told: the addresses are n .. n + 4 -/
structure ZT (h : Heap) (n : Nat) (f0 : Value) (l1 l2 : Addr) (xs ys : Array Value) (k : Nat) : Prop where
  z : IsZip h (n + 4) (n + 2) (n + 3) f0
  ti : IsPair h (n + 2) (.ref n) (.ref (n + 1))
  to : ∃ a b, IsPair h (n + 3) a b
  i1 : h.IsTupleIter n l1 k
  i2 : h.IsTupleIter (n + 1) l2 k
  t1 : h.IsTuple l1 xs
  t2 : h.IsTuple l2 ys
section
variable {prog : Program} {w : World} {A : Around} {E : Value → Shared → Prop} {s : Shared} {n l1 l2 : Nat} {xs ys : Array Value} {k : Nat}
noncomputable def ZOff (n c : Nat) : Prop := c ≠ n + 4 ∧ c ≠ n + 3 ∧ c ≠ n ∧ c ≠ n + 1
theorem tupIter_keeps {h h' : Heap} {a t : Addr} {i : Nat} (x : h.IsTupleIter a t i) (k : ∀ o, h.get? a = some o → h'.get? a = some o) : h'.IsTupleIter a t i := let ⟨o, ho, r⟩ := x; ⟨o, k o ho, r⟩
theorem tup_keeps {h h' : Heap} {a : Addr} {v : Array Value} (x : h.IsTuple a v) (k : ∀ o, h.get? a = some o → h'.get? a = some o) : h'.IsTuple a v := let ⟨o, ho, r⟩ := x; ⟨o, k o ho, r⟩
/-- one turn of the zip -/
theorem zt_next {x y : Value} {Q : Value → Shared → Prop} (Z : ZT s.heap n .none l1 l2 xs ys k) (h1 : l1 < n) (h2 : l2 < n) (hx : xs[k]? = some x) (hy : ys[k]? = some y)
    (hQ : ∀ h', ZT h' n (rawInt s.heap.objs.size) l1 l2 xs ys (k + 1) → IsPair h' s.heap.objs.size x y → h'.objs.size = s.heap.objs.size + 1 → (∀ c o, ZOff n c → s.heap.get? c = some o → h'.get? c = some o) → Q (.ref s.heap.objs.size) { s with heap := h' }) :
    wpAny (model prog w) A (Builtin.«zip.__next__» ⟨[.ref (n + 4)], []⟩) (fun fin s' => ∃ v, fin = .done (.ret v) ∧ Q v s') E s := by
  obtain ⟨hz, hTI, ⟨a, b, hTO⟩, g1, g2, u1, u2⟩ := Z
  show wpAny _ _ (field (.ref (n + 4)) 2 >>= _) _ _ _
  refine wpAny_bind (wpAny_field hz rfl (x := .bool false) rfl ?_)
  show wpAny _ _ (field (.ref (n + 4)) 3 >>= _) _ _ _
  refine wpAny_bind (wpAny_field hz rfl (x := .ref (n + 2)) rfl ?_)
  refine wpAny_bind (wpAny_seqItems hTI rfl ?_)
  show wpAny _ _ (Builtin.SmallTypes.ownedTupleIsFree (.ref (n + 4)) >>= _) _ _ _
  refine wpAny_bind ?_
  unfold Builtin.SmallTypes.ownedTupleIsFree
  refine wpAny_bind (wpAny_field hz rfl (x := .none) rfl (wpAny_pure ?_))
  simp only [if_true]
  refine wpAny_bind (wpAny_rule ?_)
  refine wpAny_bind (wpAny_field hz rfl (x := .ref (n + 3)) rfl ?_)
  refine wpAny_bind (wpAny_setField_rec hz (by simp) fun h₁ hz₁ hs₁ => ?_)
  replace hz₁ : IsZip h₁ (n + 4) (n + 2) (n + 3) .ellipsis := hz₁
  refine wpAny_bind ?_
  simp only [List.zipIdx_cons, List.zipIdx_nil, List.forIn_cons, List.forIn_nil]
  refine wpAny_bind (wpAny_bind (wpAny_onRaise ?_))
  show wpAny _ _ (Builtin.SmallTypes.nextOf (.ref n) >>= _) _ _ _
  refine wpAny_bind (nextOf_tup_item (g1.extBut hs₁.extBut (by (first | omega | (show @Ne Nat _ _; omega) | (show @LT.lt Nat _ _ _; omega) | (show @Eq Nat _ _; omega)))) (u1.extBut hs₁.extBut (by (first | omega | (show @Ne Nat _ _; omega) | (show @LT.lt Nat _ _ _; omega) | (show @Eq Nat _ _; omega)))) hx fun h₂ g1₂ hs₂ => wpAny_pure ?_)
  have hTO₂ : IsPair h₂ (n + 3) a b := hs₂.extBut _ _ (by (first | omega | (show @Ne Nat _ _; omega) | (show @LT.lt Nat _ _ _; omega) | (show @Eq Nat _ _; omega))) (hs₁.extBut _ _ (by (first | omega | (show @Ne Nat _ _; omega) | (show @LT.lt Nat _ _ _; omega) | (show @Eq Nat _ _; omega))) hTO)
  refine wpAny_bind (wpAny_seqItems hTO₂ rfl ?_)
  refine wpAny_bind (wpAny_updateSeq_pair hTO₂ fun h₃ hTO₃ hs₃ => ?_)
  replace hTO₃ : IsPair h₃ (n + 3) x b := hTO₃
  refine wpAny_bind (wpAny_letGo (wpAny_pure ?_))
  refine wpAny_bind (wpAny_bind (wpAny_onRaise ?_))
  show wpAny _ _ (Builtin.SmallTypes.nextOf (.ref (n + 1)) >>= _) _ _ _
  have up3 : ∀ c o, c ≠ n + 4 → c ≠ n → c ≠ n + 3 → s.heap.get? c = some o → h₃.get? c = some o := fun c o c1 c2 c3 e => hs₃.extBut _ _ c3 (hs₂.extBut _ _ c2 (hs₁.extBut _ _ c1 e))
  refine wpAny_bind (nextOf_tup_item (tupIter_keeps g2 fun o e => up3 _ o (by (first | omega | (show @Ne Nat _ _; omega) | (show @LT.lt Nat _ _ _; omega) | (show @Eq Nat _ _; omega))) (by (first | omega | (show @Ne Nat _ _; omega) | (show @LT.lt Nat _ _ _; omega) | (show @Eq Nat _ _; omega))) (by (first | omega | (show @Ne Nat _ _; omega) | (show @LT.lt Nat _ _ _; omega) | (show @Eq Nat _ _; omega))) e) (tup_keeps u2 fun o e => up3 _ o (by (first | omega | (show @Ne Nat _ _; omega) | (show @LT.lt Nat _ _ _; omega) | (show @Eq Nat _ _; omega))) (by (first | omega | (show @Ne Nat _ _; omega) | (show @LT.lt Nat _ _ _; omega) | (show @Eq Nat _ _; omega))) (by (first | omega | (show @Ne Nat _ _; omega) | (show @LT.lt Nat _ _ _; omega) | (show @Eq Nat _ _; omega))) e) hy fun h₄ g2₄ hs₄ => wpAny_pure ?_)
  have hTO₄ : IsPair h₄ (n + 3) x b := hs₄.extBut _ _ (by (first | omega | (show @Ne Nat _ _; omega) | (show @LT.lt Nat _ _ _; omega) | (show @Eq Nat _ _; omega))) hTO₃
  refine wpAny_bind (wpAny_seqItems hTO₄ rfl ?_)
  refine wpAny_bind (wpAny_updateSeq_pair hTO₄ fun h₅ hTO₅ hs₅ => ?_)
  replace hTO₅ : IsPair h₅ (n + 3) x y := hTO₅
  refine wpAny_bind (wpAny_letGo (wpAny_pure (wpAny_pure ?_)))
  refine wpAny_bind (wpAny_seqItems hTO₅ rfl ?_)
  refine wpAny_bind (wpAny_newTuple ?_)
  have hsz : h₅.objs.size = s.heap.objs.size := by rw [hs₅.1, hs₄.1, hs₃.1, hs₂.1, hs₁.1]
  have up5 : ∀ c o, ZOff n c → s.heap.get? c = some o → h₅.get? c = some o := fun c o hc e => hs₅.extBut _ _ hc.2.1 (hs₄.extBut _ _ hc.2.2.2 (up3 c o hc.1 hc.2.2.1 hc.2.1 e))
  have hz₅ : IsZip h₅ (n + 4) (n + 2) (n + 3) .ellipsis := hs₅.extBut _ _ (by (first | omega | (show @Ne Nat _ _; omega) | (show @LT.lt Nat _ _ _; omega) | (show @Eq Nat _ _; omega))) (hs₄.extBut _ _ (by (first | omega | (show @Ne Nat _ _; omega) | (show @LT.lt Nat _ _ _; omega) | (show @Eq Nat _ _; omega))) (hs₃.extBut _ _ (by (first | omega | (show @Ne Nat _ _; omega) | (show @LT.lt Nat _ _ _; omega) | (show @Eq Nat _ _; omega))) (hs₂.extBut _ _ (by (first | omega | (show @Ne Nat _ _; omega) | (show @LT.lt Nat _ _ _; omega) | (show @Eq Nat _ _; omega))) hz₁)))
  have g1₅ : h₅.IsTupleIter n l1 (k + 1) := ((g1₂.extBut hs₃.extBut (by (first | omega | (show @Ne Nat _ _; omega) | (show @LT.lt Nat _ _ _; omega) | (show @Eq Nat _ _; omega)))).extBut hs₄.extBut (by (first | omega | (show @Ne Nat _ _; omega) | (show @LT.lt Nat _ _ _; omega) | (show @Eq Nat _ _; omega)))).extBut hs₅.extBut (by (first | omega | (show @Ne Nat _ _; omega) | (show @LT.lt Nat _ _ _; omega) | (show @Eq Nat _ _; omega)))
  have g2₅ : h₅.IsTupleIter (n + 1) l2 (k + 1) := g2₄.extBut hs₅.extBut (by (first | omega | (show @Ne Nat _ _; omega) | (show @LT.lt Nat _ _ _; omega) | (show @Eq Nat _ _; omega)))
  have hzlt : n + 4 < h₅.objs.size := Heap.lt_size hz₅
  show wpAny _ _ (Builtin.SmallTypes.ownedTupleHandOut (.ref (n + 4)) (.ref h₅.objs.size) >>= _) _ _ _
  refine wpAny_bind ?_
  unfold Builtin.SmallTypes.ownedTupleHandOut
  have hz₆ : IsZip (h₅.push { cls := .type "tuple", data := .seq #[x, y] }) (n + 4) (n + 2) (n + 3) .ellipsis := Heap.get?_push_of_some _ hz₅
  refine wpAny_bind (wpAny_setField_rec hz₆ (by simp) fun h₇ hz₇ hs₇ => ?_)
  replace hz₇ : IsZip h₇ (n + 4) (n + 2) (n + 3) (rawInt h₅.objs.size) := hz₇
  refine wpAny_setField_rec hz₇ (by simp) fun h₈ hz₈ hs₈ => ?_
  replace hz₈ : IsZip h₈ (n + 4) (n + 2) (n + 3) (rawInt h₅.objs.size) := hz₈
  have up : ∀ c o, c ≠ n + 4 → h₅.get? c = some o → h₈.get? c = some o := fun c o c1 e => hs₈.extBut _ _ c1 (hs₇.extBut _ _ c1 (Heap.get?_push_of_some _ e))
  have hT₈ : IsPair h₈ h₅.objs.size x y := hs₈.extBut _ _ (Nat.ne_of_gt hzlt) (hs₇.extBut _ _ (Nat.ne_of_gt hzlt) (Heap.get?_push_size _ rfl))
  have hz8 : h₈.objs.size = h₅.objs.size + 1 := by rw [hs₈.1, hs₇.1, Heap.size_push]
  rw [hsz] at hz₈ hT₈ hz8
  refine wpAny_pure ⟨_, rfl, ?_⟩
  show Q (.ref h₅.objs.size) _
  rw [hsz]
  have off : ∀ c, c < n → ZOff n c := fun c hc => ⟨by (first | omega | (show @Ne Nat _ _; omega) | (show @LT.lt Nat _ _ _; omega) | (show @Eq Nat _ _; omega)), by (first | omega | (show @Ne Nat _ _; omega) | (show @LT.lt Nat _ _ _; omega) | (show @Eq Nat _ _; omega)), by (first | omega | (show @Ne Nat _ _; omega) | (show @LT.lt Nat _ _ _; omega) | (show @Eq Nat _ _; omega)), by (first | omega | (show @Ne Nat _ _; omega) | (show @LT.lt Nat _ _ _; omega) | (show @Eq Nat _ _; omega))⟩
  refine hQ h₈ ⟨hz₈, up _ _ (by (first | omega | (show @Ne Nat _ _; omega) | (show @LT.lt Nat _ _ _; omega) | (show @Eq Nat _ _; omega))) (up5 _ _ ⟨by (first | omega | (show @Ne Nat _ _; omega) | (show @LT.lt Nat _ _ _; omega) | (show @Eq Nat _ _; omega)), by (first | omega | (show @Ne Nat _ _; omega) | (show @LT.lt Nat _ _ _; omega) | (show @Eq Nat _ _; omega)), by (first | omega | (show @Ne Nat _ _; omega) | (show @LT.lt Nat _ _ _; omega) | (show @Eq Nat _ _; omega)), by (first | omega | (show @Ne Nat _ _; omega) | (show @LT.lt Nat _ _ _; omega) | (show @Eq Nat _ _; omega))⟩ hTI), ⟨_, _, up _ _ (by (first | omega | (show @Ne Nat _ _; omega) | (show @LT.lt Nat _ _ _; omega) | (show @Eq Nat _ _; omega))) hTO₅⟩, tupIter_keeps g1₅ fun o e => up _ o (by (first | omega | (show @Ne Nat _ _; omega) | (show @LT.lt Nat _ _ _; omega) | (show @Eq Nat _ _; omega))) e, tupIter_keeps g2₅ fun o e => up _ o (by (first | omega | (show @Ne Nat _ _; omega) | (show @LT.lt Nat _ _ _; omega) | (show @Eq Nat _ _; omega))) e,
    tup_keeps u1 fun o e => up _ o (by (first | omega | (show @Ne Nat _ _; omega) | (show @LT.lt Nat _ _ _; omega) | (show @Eq Nat _ _; omega))) (up5 _ o (off _ h1) e), tup_keeps u2 fun o e => up _ o (by (first | omega | (show @Ne Nat _ _; omega) | (show @LT.lt Nat _ _ _; omega) | (show @Eq Nat _ _; omega))) (up5 _ o (off _ h2) e)⟩ hT₈ hz8 fun c o hc e => up c o hc.1 (up5 c o hc e)
/-- the zip's end: the first tuple is told -/
theorem zt_end {Q : Fin → Shared → Prop} (hh : A.handled = none) (Z : ZT s.heap n .none l1 l2 xs ys k) (h1 : l1 < n) (hx : xs[k]? = none)
    (hE : ∀ h' e, (∀ c o, ZOff n c → s.heap.get? c = some o → h'.get? c = some o) → (∃ o, h'.get? e = some o ∧ o.cls = .type "StopIteration") → E (.ref e) { s with heap := h' }) :
    wpAny (model prog w) A (Builtin.«zip.__next__» ⟨[.ref (n + 4)], []⟩) Q E s := by
  obtain ⟨hz, hTI, ⟨a, b, hTO⟩, g1, g2, u1, u2⟩ := Z
  show wpAny _ _ (field (.ref (n + 4)) 2 >>= _) _ _ _
  refine wpAny_bind (wpAny_field hz rfl (x := .bool false) rfl ?_)
  show wpAny _ _ (field (.ref (n + 4)) 3 >>= _) _ _ _
  refine wpAny_bind (wpAny_field hz rfl (x := .ref (n + 2)) rfl ?_)
  refine wpAny_bind (wpAny_seqItems hTI rfl ?_)
  show wpAny _ _ (Builtin.SmallTypes.ownedTupleIsFree (.ref (n + 4)) >>= _) _ _ _
  refine wpAny_bind ?_
  unfold Builtin.SmallTypes.ownedTupleIsFree
  refine wpAny_bind (wpAny_field hz rfl (x := .none) rfl (wpAny_pure ?_))
  simp only [if_true]
  refine wpAny_bind (wpAny_rule ?_)
  refine wpAny_bind (wpAny_field hz rfl (x := .ref (n + 3)) rfl ?_)
  refine wpAny_bind (wpAny_setField_rec hz (by simp) fun h₁ hz₁ hs₁ => ?_)
  replace hz₁ : IsZip h₁ (n + 4) (n + 2) (n + 3) .ellipsis := hz₁
  refine wpAny_bind ?_
  simp only [List.zipIdx_cons, List.zipIdx_nil, List.forIn_cons, List.forIn_nil]
  refine wpAny_bind (wpAny_bind (wpAny_onRaise ?_))
  show wpAny _ _ (Builtin.SmallTypes.nextOf (.ref n) >>= _) _ _ _
  refine wpAny_bind (nextOf_tup_end hh (g1.extBut hs₁.extBut (by (first | omega | (show @Ne Nat _ _; omega) | (show @LT.lt Nat _ _ _; omega) | (show @Eq Nat _ _; omega)))) (u1.extBut hs₁.extBut (by (first | omega | (show @Ne Nat _ _; omega) | (show @LT.lt Nat _ _ _; omega) | (show @Eq Nat _ _; omega)))) hx fun h₂ e hs₂ he => ?_)
  obtain ⟨oe, hoe, hce⟩ := he
  have hz₂ : IsZip h₂ (n + 4) (n + 2) (n + 3) .ellipsis := hs₂ _ _ (by (first | omega | (show @Ne Nat _ _; omega) | (show @LT.lt Nat _ _ _; omega) | (show @Eq Nat _ _; omega))) hz₁
  have hez : e ≠ n + 4 := fun x => by subst x; rw [hz₂] at hoe; cases hoe; simp at hce
  exact wpAny_setField_rec hz₂ (by simp) fun h₃ _ hs₃ => hE h₃ e (fun c o hc x => hs₃.extBut _ _ hc.1 (hs₂ _ _ hc.2.2.1 (hs₁.extBut _ _ hc.1 x))) ⟨oe, hs₃.extBut _ _ hez hoe, hce⟩
end
end Mine
end
-- Z2
section
open PySem PySem.W PySem.Calls PyProof.Rows
set_option maxRecDepth 100000
namespace Mine
section
variable {prog : Program} {w : World} {A : Around} {E : Value → Shared → Prop} {s : Shared} {n l1 l2 : Nat} {xs ys : Array Value} {k : Nat}
theorem ZT.keeps {h h' : Heap} {f0 : Value} (Z : ZT h n f0 l1 l2 xs ys k) (hk : ∀ b ∈ [n + 4, n + 2, n + 3, n, n + 1, l1, l2], ∀ o, h.get? b = some o → h'.get? b = some o) : ZT h' n f0 l1 l2 xs ys k := by
  obtain ⟨hz, hTI, ⟨a, b, hTO⟩, g1, g2, u1, u2⟩ := Z
  exact ⟨hk _ (by simp) _ hz, hk _ (by simp) _ hTI, ⟨a, b, hk _ (by simp) _ hTO⟩, tupIter_keeps g1 fun o e => hk _ (by simp) o e, tupIter_keeps g2 fun o e => hk _ (by simp) o e, tup_keeps u1 fun o e => hk _ (by simp) o e, tup_keeps u2 fun o e => hk _ (by simp) o e⟩
theorem zoff_of {c : Nat} (h : c ∉ [n + 4, n + 3, n, n + 1]) : ZOff n c := ⟨fun e => h (by simp [e]), fun e => h (by simp [e]), fun e => h (by simp [e]), fun e => h (by simp [e])⟩
theorem walks_zip (hh : A.handled = none) (n l1 l2 : Nat) (h1 : l1 < n) (h2 : l2 < n) (xs ys : Array Value) (hxy : xs.size = ys.size) :
    WalksT prog w A (n + 4) [n + 4, n + 2, n + 3, n, n + 1, l1, l2] [n + 4, n + 3, n, n + 1] xs.size (fun i vals => ∃ x y, xs[i]? = some x ∧ ys[i]? = some y ∧ vals = #[x, y])
      (fun i h => ZT h n .none l1 l2 xs ys i) (fun i T h => ZT h n (rawInt T) l1 l2 xs ys (i + 1) ∧ ZOff n T) where
  sub := fun c hc => by simp at hc ⊢; rcases hc with rfl | rfl | rfl | rfl <;> simp
  frame := fun i h h' hst hk => hst.keeps fun b hb o e => hk b hb o e
  item := fun i s Q E hi hst hQ => by
    have hT : s.TypeIs (.ref (n + 4)) "zip" := ⟨_, hst.z, rfl⟩
    have hiy : i < ys.size := by omega
    unfold pyNext
    refine wpAny_bind (wpAny_attempt (wpAny_callSpecial?_slot (name := Str.ofString "__next__") hT PySem.F.slot_zip_next
      (wpAny_call_entry PySem.F.slot_zip_next hT PySem.F.entry_zip_next (zt_next hst h1 h2 (Array.getElem?_eq_getElem hi) (Array.getElem?_eq_getElem hiy) fun h' Z' hp hsz hk => wpAny_pure ?_) (PySem.F.args_zip_next_1 _))))
    have lt : ∀ {c : Nat} {o}, s.heap.get? c = some o → s.heap.objs.size ≠ c := fun e => Nat.ne_of_gt (Heap.lt_size e)
    exact hQ s.heap.objs.size #[xs[i], ys[i]] h' s.toks ⟨_, _, Array.getElem?_eq_getElem hi, Array.getElem?_eq_getElem hiy, rfl⟩ (Nat.le_refl _) ⟨_, hp, rfl, _, rfl⟩
      ⟨Z', lt hst.z, (by obtain ⟨_, _, e⟩ := hst.to; exact lt e), (by obtain ⟨_, e, _⟩ := hst.i1; exact lt e), (by obtain ⟨_, e, _⟩ := hst.i2; exact lt e)⟩ fun c o hc e => hk c o (zoff_of hc) e
  go := fun elts k pos i T s Q E hm hQ => by
    refine wpAny_letOwnedTupleGo_zip hm.1.z fun h' hz' hs' => ?_
    have Z := hm.1
    refine hQ h' ⟨hz', hs'.extBut _ _ (by (first | omega | (show @Ne Nat _ _; omega) | (show @LT.lt Nat _ _ _; omega) | (show @Eq Nat _ _; omega))) Z.ti, ?_, Z.i1.extBut hs'.extBut (by (first | omega | (show @Ne Nat _ _; omega) | (show @LT.lt Nat _ _ _; omega) | (show @Eq Nat _ _; omega))), Z.i2.extBut hs'.extBut (by (first | omega | (show @Ne Nat _ _; omega) | (show @LT.lt Nat _ _ _; omega) | (show @Eq Nat _ _; omega))), Z.t1.extBut hs'.extBut (by (first | omega | (show @Ne Nat _ _; omega) | (show @LT.lt Nat _ _ _; omega) | (show @Eq Nat _ _; omega))), Z.t2.extBut hs'.extBut (by (first | omega | (show @Ne Nat _ _; omega) | (show @LT.lt Nat _ _ _; omega) | (show @Eq Nat _ _; omega)))⟩ fun c o hc e => hs'.extBut _ _ (fun x => hc (by simp [x])) e
    obtain ⟨a, b, e⟩ := Z.to
    exact ⟨a, b, hs'.extBut _ _ (by (first | omega | (show @Ne Nat _ _; omega) | (show @LT.lt Nat _ _ _; omega) | (show @Eq Nat _ _; omega))) e⟩
  apart := fun i T h hm hT => by
    have hm2 := hm.2
    simp at hT
    rcases hT with e | e | e | e
    · exact hm2.1 e
    · exact hm2.2.1 e
    · exact hm2.2.2.1 e
    · exact hm2.2.2.2 e
  done := fun s Q E hst hQ => by
    have hT : s.TypeIs (.ref (n + 4)) "zip" := ⟨_, hst.z, rfl⟩
    unfold pyNext
    refine wpAny_bind (wpAny_attempt (wpAny_callSpecial?_slot (name := Str.ofString "__next__") hT PySem.F.slot_zip_next
      (wpAny_call_entry PySem.F.slot_zip_next hT PySem.F.entry_zip_next (zt_end hh hst h1 (Array.getElem?_eq_none (Nat.le_refl _)) fun h' e hk he => ?_) (PySem.F.args_zip_next_1 _))))
    obtain ⟨o, ho, hc⟩ := he
    refine wpAny_bind (wpAny_isInstance (T := "StopIteration") (b := true) ⟨o, ho, hc⟩ isSubtype_stop ?_)
    exact wpAny_pure (hQ _ _ fun c o hc e => hk c o (zoff_of hc) e)
  self := fun i s Q E hst hQ => wpAny_pyIter_zip hst.z hQ
end
noncomputable abbrev zp1 (h : Heap) (l : Addr) : Heap := h.push { cls := .type "tuple_iterator", data := .fields #[.ref l, .int 0 0] }
noncomputable abbrev zp3 (h : Heap) (l1 l2 : Addr) : Heap := (zp1 (zp1 h l1) l2).push { cls := .type "tuple", data := .seq #[.ref h.objs.size, .ref (zp1 h l1).objs.size] }
noncomputable abbrev zp4 (h : Heap) (l1 l2 : Addr) : Heap := (zp3 h l1 l2).push { cls := .type "tuple", data := .seq #[.none, .none] }
noncomputable abbrev zp5 (h : Heap) (l1 l2 : Addr) : Heap := (zp4 h l1 l2).push { cls := .type "zip", data := .fields #[.none, .bool false, .bool false, .ref (zp1 (zp1 h l1) l2).objs.size, .ref (zp3 h l1 l2).objs.size] }
theorem meets_zipT (l1 l2 : Addr) (xs ys : Array Value) :
    Meets (Builtin.«zip.__new__» ⟨[.type "zip", .ref l1, .ref l2], []⟩) (fun _ R s => s.heap.IsTuple l1 xs ∧ s.heap.IsTuple l2 ys ∧ R (.ok (.ret (.ref (zp4 s.heap l1 l2).objs.size))) { s with heap := zp5 s.heap l1 l2 }) :=
  .of_wp fun prog w A R s h => by
    obtain ⟨hp, g, d, tk, os⟩ := s; obtain ⟨hl1, hl2, h⟩ := h
    have hsub := sub_zip
    have hL1 : Heap.IsTuple (Shared.heap ⟨hp, g, d, tk, os⟩) l1 xs := hl1
    have hL2 : Heap.IsTuple (Shared.heap ⟨hp.push { cls := .type "tuple_iterator", data := .fields #[.ref l1, .int 0 0] }, g, d, tk, os⟩) l2 ys := Heap.IsTuple.push hl2 _
    wp_walk using wpAny_pyIter_tuple hL1, wpAny_pyIter_tuple hL2
    exact ⟨_, rfl, h⟩
section
variable {prog : Program} {w : World} {A : Around} {E : Value → Shared → Prop} {s : Shared}
theorem call_zipT {l1 l2 : Nat} {xs ys : Array Value} {Q : Value → Shared → Prop} (hl1 : s.heap.IsTuple l1 xs) (hl2 : s.heap.IsTuple l2 ys)
    (h : ∀ h', ZT h' s.heap.objs.size .none l1 l2 xs ys 0 → h'.objs.size = s.heap.objs.size + 5 → (∀ c o, s.heap.get? c = some o → h'.get? c = some o) → Q (.ref (s.heap.objs.size + 4)) { s with heap := h' }) :
    wpAny (model prog w) A (call (.type "zip") [.ref l1, .ref l2]) Q E s := by
  refine callType_new PySem.F.called_zip (by decide) (PySem.F.typeCall_zip_2 _ _) (PySem.F.newCall_zip_2 _ _) (fun obj => PySem.F.args_object_init_3 obj _ _) PySem.F.entry_zip_new (meets_zipT l1 l2 xs ys) ⟨hl1, hl2, ?_⟩
  have z1 : (zp1 s.heap l1).objs.size = s.heap.objs.size + 1 := Heap.size_push ..
  have z2 : (zp1 (zp1 s.heap l1) l2).objs.size = s.heap.objs.size + 2 := by rw [Heap.size_push, z1]
  have z3 : (zp3 s.heap l1 l2).objs.size = s.heap.objs.size + 3 := by rw [Heap.size_push, z2]
  have z4 : (zp4 s.heap l1 l2).objs.size = s.heap.objs.size + 4 := by rw [Heap.size_push, z3]
  have z5 : (zp5 s.heap l1 l2).objs.size = s.heap.objs.size + 5 := by rw [Heap.size_push, z4]
  have g5 : (zp5 s.heap l1 l2).get? (zp4 s.heap l1 l2).objs.size = some _ := Heap.get?_push_size _ rfl
  have g4 : (zp5 s.heap l1 l2).get? (zp3 s.heap l1 l2).objs.size = some _ := Heap.get?_push_of_some _ (Heap.get?_push_size _ rfl)
  have g3 : (zp5 s.heap l1 l2).get? (zp1 (zp1 s.heap l1) l2).objs.size = some _ := Heap.get?_push_of_some _ (Heap.get?_push_of_some _ (Heap.get?_push_size _ rfl))
  have g2 : (zp5 s.heap l1 l2).get? (zp1 s.heap l1).objs.size = some _ := Heap.get?_push_of_some _ (Heap.get?_push_of_some _ (Heap.get?_push_of_some _ (Heap.get?_push_size _ rfl)))
  have g1 : (zp5 s.heap l1 l2).get? s.heap.objs.size = some _ := Heap.get?_push_of_some _ (Heap.get?_push_of_some _ (Heap.get?_push_of_some _ (Heap.get?_push_of_some _ (Heap.get?_push_size _ rfl))))
  have up : ∀ c o, s.heap.get? c = some o → (zp5 s.heap l1 l2).get? c = some o := fun c o x => Heap.get?_push_of_some _ (Heap.get?_push_of_some _ (Heap.get?_push_of_some _ (Heap.get?_push_of_some _ (Heap.get?_push_of_some _ x))))
  show _ ∧ _
  rw [z2, z3, z4] at g5
  rw [z1, z2] at g3
  rw [z3] at g4
  rw [z1] at g2
  rw [z4]
  exact ⟨⟨_, g5, rfl⟩, h _ ⟨g5, g3, ⟨_, _, g4⟩, ⟨_, g1, rfl, rfl⟩, ⟨_, g2, rfl, rfl⟩, tup_keeps hl1 fun o e => up _ o e, tup_keeps hl2 fun o e => up _ o e⟩ z5 up⟩
end
end Mine
end
-- Z3
section
open PySem PySem.W PySem.Calls PyProof.Rows
set_option maxRecDepth 100000
namespace Mine
section
variable {prog : Program} {w : World} {A : Around} {E : Value → Shared → Prop} {s : Shared} {h₀ : Heap} {c P L : Addr} {m mg : Str → Option Value} {bm : Addr} {ob : Obj}
theorem genexprCodeT {env : Env} {ps : Array Value} {pos : Pos} {qualname : Str} {scope : Scope} {Q : Value → Shared → Prop} (hc : env.code = .ref c) (hok : s.heap.IsCode c P ps) (htab : s.heap.TableAt c P ps)
    (hQ : ∀ code h' tk ps', Heap.ExtBut P s.heap h' → h'.IsCode c P ps' → h'.TableAt c P ps' → Q code { s with heap := h', toks := tk }) : wpAny (model prog w) A (genexprCode env pos qualname scope) Q E s := by
  cases hnf : codeAmong pos ps.toList with
  | none => exact wpAny_genexprCodeX hc hok htab hnf fun c' h' tk hx _ _ hcd _ ht _ => hQ _ _ _ _ hx hcd ht
  | some cv => exact wpAny_genexprCode_hit hc hok hnf (hQ cv s.heap s.toks ps (Heap.ExtBut.refl _ _) hok htab)
/-- (xa + xb for xa, xb in zip(..)) of two tuples of ints; the code's table P may grow -/
theorem gen_zipT {env : Env} {iter : Expr} {xa xb : Str} {pa pb pt p1 p2 p3 pos : Pos} {kt : Nat} {scope : Scope} {cl : List (Str × Addr)} {Q : Value → Shared → Prop}
    (_F : Fr h₀ L s.heap m) (M : BMod h₀ env.globals mg bm ob) (hlim : h₀.NoLimit) (hcode : env.code = .ref c) (hLP : L ≠ P) (hP0 : h₀.get? P = none)
    (hh : A.handled = none) (hco : scope.isCoroutine = false) (hclos : closureFor scope env = pure cl) (hcell : ∀ y ∈ scope.names, y.2 ≠ .cell) (h0 : scope.names.lookup (".0" : Str) = some NameKind.local)
    (hxa : scope.names.lookup xa = some .local) (hxb : scope.names.lookup xb = some .local) (hab : xa ≠ xb) (hkind : scope.kind = .function) (hroom : A.depth < recursionLimit)
    (hda : (xa == ("__debug__" : Str)) = false) (hdb : (xb == ("__debug__" : Str)) = false)
    (h : wpAny (model prog w) A (eval iter env) (fun xv s₁ => ∃ (n l1 l2 : Nat) (vs₁ vs₂ : List Value) (zs : List (Int × Int)) (ps : Array Value), xv = .ref (n + 4) ∧ ZT s₁.heap n .none l1 l2 vs₁.toArray vs₂.toArray 0 ∧ l1 < n ∧ l2 < n ∧ l1 ≠ P ∧ l2 ≠ P ∧ @LT.lt Nat _ L n ∧ @LT.lt Nat _ P n ∧
      vs₁.length = zs.length ∧ vs₂.length = zs.length ∧ (∀ (i : Nat) (p : Int × Int), zs[i]? = some p → ∃ t u, vs₁[i]? = some (Value.int p.1 t) ∧ vs₂[i]? = some (Value.int p.2 u)) ∧ Fr h₀ L s₁.heap m ∧ AllBare s₁.gens ∧ (s₁.heap.IsCode c P ps ∧ s₁.heap.TableAt c P ps) ∧
      (∀ a s₅ ps', Fr h₀ L s₅.heap m → AllBare s₅.gens → s₅.os = s₁.os → (∀ b o, b ≠ P → s₁.heap.get? b = some o → s₅.heap.get? b = some o) → s₅.heap.IsCode c P ps' → s₅.heap.TableAt c P ps' →
        GenOnD prog w A (n - 1) a zs (fun _ => true) (fun p => .int (p.1 + p.2)) s₅ → Q (.ref a) s₅)) E s)
    (hs : ∀ x, genFold iter env x = pure x) :
    wpAny (model prog w) A (eval (.GeneratorExp (.BinOp (.Name xa p1) .Add (.Name xb p2) p3) [⟨.Tuple [.Name xa pa, .Name xb pb] kt pt, iter, [], 0⟩] scope pos) env) Q E s := by
  refine wpAny_GeneratorExp_walksQTD hh hco hclos hcell h0 hxa hxb hab hkind hroom (wpAny_mono h (fun xv s₁ h₁ => ?_) fun _ _ e => e) hs
  obtain ⟨n, l1, l2, vs₁, vs₂, zs, ps, rfl, Z, h1, h2, h1P, h2P, hLn, hPn, hl1, hl2, hvs, F, G, ⟨hcd, htb⟩, hQ⟩ := h₁
  have hxy : vs₁.toArray.size = vs₂.toArray.size := by simp [hl1, hl2]
  have W := fun (A' : Around) (hA : A'.handled = none) => (walks_zip (prog := prog) (w := w) hA n l1 l2 h1 h2 vs₁.toArray vs₂.toArray hxy).toU
  refine (W A hh).self 0 _ _ _ Z ?_
  refine ⟨hlim.keeps F.keep, genexprCodeT hcode hcd htb fun code h₃ tk₃ ps' hx₃ hcd₃ htb₃ => ?_⟩
  have nP : ∀ b o, h₀.get? b = some o → b ≠ P := fun b o e hb => by rw [hb, hP0] at e; cases e
  have keep₃ : ∀ b o, h₀.get? b = some o → h₃.get? b = some o := fun b o e => hx₃ b o (nP b o e) (F.keep b o e)
  have F₃ : Fr h₀ L h₃ m := ⟨F.ns.at' fun o e => hx₃ L o hLP e, keep₃, F.above⟩
  have M₃ := M.keeps keep₃
  have hfpP : ∀ b ∈ [n + 4, n + 2, n + 3, n, n + 1, l1, l2], b ≠ P := fun b hb e => by
    have e' : @Eq Nat b P := e
    have h1' : @Ne Nat l1 P := h1P
    have h2' : @Ne Nat l2 P := h2P
    simp only [List.mem_cons, List.not_mem_nil, or_false] at hb
    omega
  have Z₃ : ZT h₃ n .none l1 l2 vs₁.toArray vs₂.toArray 0 := Z.keeps fun b hb o e => hx₃ b o (hfpP b hb) e
  have hcs : @LT.lt Nat _ cStatics n := by
    obtain ⟨_, hn, _⟩ := hlim
    exact Nat.lt_trans (Nat.lt_of_lt_of_le hn.lt F.above) hLn
  have hwr : ∀ b ∈ [n + 4, n + 3, n, n + 1], n ≤ b := fun b hb => by
    simp only [List.mem_cons, List.not_mem_nil, or_false] at hb
    omega
  have hpz : ∀ (i : Nat) (va vb : Value), (∃ x y, vs₁.toArray[i]? = some x ∧ vs₂.toArray[i]? = some y ∧ (#[va, vb] : Array Value) = #[x, y]) → ∃ (p : Int × Int) (t u : Tok), zs[i]? = some p ∧ va = .int p.1 t ∧ vb = .int p.2 u := by
    rintro i va vb ⟨x, y, hx, hy, e⟩
    obtain ⟨e1, e2⟩ : va = x ∧ vb = y := by simpa using congrArg Array.toList e
    subst e1 e2
    simp only [List.getElem?_toArray] at hx hy
    have hlt : i < zs.length := by
      rcases Nat.lt_or_ge i zs.length with h | h
      · exact h
      · rw [List.getElem?_eq_none (by omega)] at hx; cases hx
    obtain ⟨t, u, ea, eb⟩ := hvs i _ (List.getElem?_eq_getElem hlt)
    rw [hx] at ea; rw [hy] at eb
    exact ⟨_, t, u, List.getElem?_eq_getElem hlt, Option.some.inj ea, Option.some.inj eb⟩
  refine wpAny_builtinsFor M₃.ns M₃.name M₃.ne M₃.obj M₃.cls M₃.dict M₃.data ?_
  have hn0 : vs₁.toArray.size = zs.length := by simp [hl1]
  rw [hn0] at W
  refine ⟨n + 4, _, _, zs.length, _, _, _, (fun i => (zs[i]?.map fun _ => true).getD false), (fun i y => ∃ b, zs[i]? = some b ∧ Carried y (.int (b.1 + b.2))), rfl, W, (fun i vals hv => by obtain ⟨x, y, _, _, e⟩ := hv; exact ⟨x, y, e⟩), Z₃, ?_, hlim.keeps keep₃, ?_, ?_, ?_⟩
  · intro b hb
    obtain ⟨hz, hTI, ⟨a', b', hTO⟩, ⟨_, g1, _⟩, ⟨_, g2, _⟩, ⟨_, u1, _⟩, ⟨_, u2, _⟩⟩ := Z₃
    simp only [List.mem_cons, List.not_mem_nil, or_false] at hb
    rcases hb with rfl | rfl | rfl | rfl | rfl | rfl | rfl
    · exact Heap.lt_size hz
    · exact Heap.lt_size hTI
    · exact Heap.lt_size hTO
    · exact Heap.lt_size g1
    · exact Heap.lt_size g2
    · exact Heap.lt_size u1
    · exact Heap.lt_size u2
  · intro hb
    exact Nat.lt_irrefl _ (Nat.lt_of_lt_of_le hcs (hwr _ hb))
  · intro href hhref
    have inB : ∀ (t : Shared) m₂, t.heap.Ns h₃.objs.size m₂ → (∀ b ∈ List.range h₃.objs.size, b ∉ [n + 4, n + 3, n, n + 1] → ∀ o, href.get? b = some o → t.heap.get? b = some o) → Fr h₀ h₃.objs.size t.heap m₂ := fun t m₂ hn hkp =>
      ⟨hn, fun b o e => hkp b (List.mem_range.mpr (Heap.lt_size (keep₃ b o e))) (fun hm => Nat.lt_irrefl _ (Nat.lt_of_lt_of_le (Nat.lt_trans (Nat.lt_of_lt_of_le (Heap.lt_size e) F.above) hLn) (hwr b hm))) o (hhref b o (keep₃ b o e)),
        Nat.le_trans F.above (Nat.le_of_lt F₃.ns.lt)⟩
    refine ⟨fun A' E' i va vb t m₂ hA hD hU hP hn hma hmb hkp => ?_, fun A' E' i va vb t m₂ hA hD hU hP hp hn hma hmb hkp => ?_⟩
    · obtain ⟨p, _, _, hp, _, _⟩ := hpz i va vb hP
      exact wpAny_pure ⟨by simp [hp], t.heap, t.toks, rfl, fun _ _ e => e⟩
    · obtain ⟨p, ta, tb, hp, rfl, rfl⟩ := hpz i va vb hP
      have Ft := inB t m₂ hn hkp
      refine wpAny_BinOp (ldVarG Ft hma (ldVarG Ft hmb (wpAny_add_int ?_) hkind hxb hdb) hkind hxa hda)
      exact ⟨⟨p, hp, .int _ _⟩, t.heap, _, rfl, fun _ _ e => e⟩
  · intro a h₅ tk gs hgb hag hsz₅ hk₅ WS hat
    refine hQ a _ ps' (F₃.keeps hk₅) (G.push hgb) rfl (fun b o hb e => hk₅ b o (hx₃ b o hb e)) (hcd₃.keeps hk₅) (htb₃.keeps hk₅) (Gen.toOnD zs (fun _ => true) (fun p => .int (p.1 + p.2)) ⟨_, _, _, _, WS, hat, (fun i s' st => st.1.typeIs), List.mem_cons_self, ?_, ?_⟩)
    · intro b hb
      show b < h₅.objs.size
      rw [hsz₅]
      rcases List.mem_cons.mp hb with rfl | hb
      · exact Nat.lt_succ_self _
      · rcases List.mem_cons.mp hb with rfl | hb
        · exact Nat.lt_succ_of_lt hag
        · exact Nat.lt_succ_of_lt (Nat.lt_trans (List.mem_range.mp hb) hag)
    · intro b hb
      have hL1 : n - 1 < n := by have := hLn; omega
      rcases List.mem_cons.mp hb with rfl | hb
      · have := Heap.lt_size Z₃.z
        have : n + 4 < h₃.objs.size := this
        show n - 1 < h₃.objs.size
        omega
      · exact Nat.lt_of_lt_of_le hL1 (hwr b hb)
end
end Mine
end
-- P0
section
open PySem PySem.W PySem.Calls PyProof.Rows
set_option maxRecDepth 100000
namespace Mine
theorem look58 (w : World) : ∃ o vs file tf flags tg inF text tt, (hd.heap_39 w.params).lookup 58 = some o ∧ o.data = .fields vs ∧ vs.getD 11 .none = .ref 54 ∧ vs.getD 18 .none = .str file tf ∧ vs.getD 7 .none = .int flags tg ∧ vs.getD 9 .none = .bool inF ∧ vs.getD 10 .none = .int text tt := by
  with_unfolding_all exact ⟨_, _, _, _, _, _, _, _, _, rfl, rfl, rfl, rfl, rfl, rfl, rfl⟩
theorem code58 {w : World} {h : Heap} {oP : Obj} {ps : Array Value} (X : (hd.heap_39 w.params).In h) (g : h.get? 54 = some oP) (hd : oP.data = .fields ps) (ht : TriplesOk ps.toList) : h.IsCode 58 54 ps := by
  obtain ⟨o, vs, file, tf, flags, tg, inF, text, tt, e, a1, a2, a3, a4, a5, a6⟩ := look58 w
  exact ⟨o, vs, file, tf, flags, tg, inF, text, tt, oP, X _ _ e, a1, a2, a3, a4, a5, a6, g, hd, ht, by decide⟩
theorem look58t (w : World) : ∃ o vs, (hd.heap_39 w.params).lookup 58 = some o ∧ o.cls = .type "code" ∧ o.data = .fields vs ∧ vs[11]? = some (.ref 54) := by
  with_unfolding_all exact ⟨_, _, rfl, rfl, rfl, rfl⟩
theorem table58 {w : World} {h : Heap} {ps : Array Value} (X : (hd.heap_39 w.params).In h) (g : h.get? 54 = some (tabObj ps)) : h.TableAt 58 54 ps := by
  obtain ⟨o, vs, e, a1, a2, a3⟩ := look58t w
  exact ⟨⟨o, vs, X _ _ e, a1, a2, a3⟩, g⟩
end Mine
end
-- P1
section
open PySem PySem.W PySem.Calls PyProof.Rows
set_option maxRecDepth 100000
set_option maxHeartbeats 8000000
namespace Mine
theorem off_allLt {d : Addr} : ∀ {l : List (Addr × Obj)}, AllLt d l → Off d l
  | [], _, p, hp => by cases hp
  | q :: r, h, p, hp => by
    rcases List.mem_cons.mp hp with rfl | hp
    · exact Nat.ne_of_lt h.1
    · exact off_allLt h.2 p hp
theorem off_cons {d : Addr} {p : Addr × Obj} {l : List (Addr × Obj)} (h1 : p.1 ≠ d) (h2 : Off d l) : Off d (p :: l) := fun q hq => by
  rcases List.mem_cons.mp hq with rfl | hq
  · exact h1
  · exact h2 q hq
theorem news_grown {h₀ h h' : Heap} {L P : Addr} {oP oP' : Obj} {pre post : List (Addr × Obj)} (N : News h₀ L h (pre ++ (P, oP) :: post)) (h1 : Off P pre) (h2 : Off P post) (up : ∀ b o, b ≠ P → h.get? b = some o → h'.get? b = some o) (g : h'.get? P = some oP') : News h₀ L h' (pre ++ (P, oP') :: post) := fun p hp => by
  have hP := N (P, oP) (List.mem_append_right _ (.head _))
  rcases List.mem_append.mp hp with hp | hp
  · have q := N p (List.mem_append_left _ hp)
    exact ⟨up _ _ (h1 p hp) q.1, q.2⟩
  · rcases List.mem_cons.mp hp with rfl | hp
    · exact ⟨g, hP.2⟩
    · have q := N p (List.mem_append_right _ (.tail _ hp))
      exact ⟨up _ _ (h2 p hp) q.1, q.2⟩
theorem addr_lt {n : Nat} {l l' : List (Addr × Obj)} (e : l.map (·.1) = l'.map (·.1)) (h : ∀ p ∈ l', @LT.lt Nat _ p.1 n) : ∀ p ∈ l, @LT.lt Nat _ p.1 n := fun p hp => by
  have : p.1 ∈ l'.map (·.1) := e ▸ List.mem_map_of_mem hp
  obtain ⟨q, hq, e⟩ := List.mem_map.mp this
  exact e ▸ h q hq
theorem news_le {h₀ h h' : Heap} {L : Addr} {n : Nat} {news : List (Addr × Obj)} (N : News h₀ L h news) (lt : ∀ p ∈ news, @LT.lt Nat _ p.1 n) (up : ∀ b o, @LE.le Nat _ b (n - 1) → h.get? b = some o → h'.get? b = some o) : News h₀ L h' news := fun p hp => ⟨up _ _ (Nat.le_sub_one_of_lt (lt p hp)) (N p hp).1, (N p hp).2⟩
theorem news_new {h₀ h : Heap} {L D : Addr} {o : Obj} {l all : List (Addr × Obj)} (_N : News h₀ L h all) (ho : h.get? D = some o) (hL : D ≠ L) (h0 : h₀.get? D = none) (N' : News h₀ L h l) : News h₀ L h ((D, o) :: l) := fun q hq => by
  rcases List.mem_cons.mp hq with rfl | hq
  · exact ⟨ho, hL, h0⟩
  · exact N' q hq
theorem tup_ne_frame {h₀ h : Heap} {L D : Addr} {m : Str → Option Value} {o : Obj} {vs : Array Value} {n : Nat} (F : Fr h₀ L h m) (ho : h.get? D = some o) (hd : o.data = .seq vs n) : D ≠ L := fun e => by
  obtain ⟨oL, es, ep, hoL, hdL, _⟩ := F.ns
  rw [← e, ho] at hoL
  cases hoL
  rw [hd] at hdL
  cases hdL
theorem tup_ne_dict {prog : Program} {w : World} {h₀ h : Heap} {L D d : Addr} {o b : Obj} {l : List (Addr × Obj)} {kvs : List (Int × Value)} {vs : Array Value} {n : Nat} (N : News h₀ L h l) (hm : (d, b) ∈ l) (hb : b.IsDictOf (PySem.intKind prog w) kvs) (ho : h.get? D = some o) (hd : o.data = .seq vs n) : D ≠ d := fun e => by
  have h1 := (N _ hm).1
  dsimp only at h1
  rw [← e, ho] at h1
  cases h1
  obtain ⟨es, ep, _, hdd, _⟩ := hb
  rw [hd] at hdd
  cases hdd
theorem one_at {k : Int} {v : Value} {i : Nat} {k1 : Int} {x : Value} (h : [(k, v)][i]? = some (k1, x)) : i = 0 ∧ k1 = k ∧ x = v := by
  match i, h with
  | 0, h => simp at h; exact ⟨rfl, h.1.symm, h.2.symm⟩
  | i + 1, h => simp at h
local macro_rules | `(tactic| walk_at "setItem ref int") => `(tactic| ((rename Fr _ _ _ _ => F9); (rename News _ _ _ _ => N9); refine set_led F9 N9 (by assumption) (by assumption) (by assumption) (by (try simp only [List.length_take]); omega) ?_; clear F9 N9; intro h' o' F' N' hd'; (try dsimp only)))
local macro_rules | `(tactic| walk_at "compareOp In int ref") => `(tactic| ((rename News _ _ _ _ => N9); refine kda_in (knd := PySem.intKind _ _) N9 (.tail _ (.head _)) (by assumption) (by assumption) (intKind_is _ _ _ _) _ (by assumption) ?_; (try dsimp only)))
local macro_rules | `(tactic| walk_at "subscriptTail Name Name ref int") => `(tactic| ((rename News _ _ _ _ => N9); refine kda_item (knd := PySem.intKind _ _) N9 (.tail _ (.head _)) (by assumption) (intKind_is _ _ _ _) (by assumption) ?_; (try dsimp only)))
structure St2 where
  f : Option Value
  c : Option Value
  o : Obj
  oP : Obj
  q : Addr
  b : Obj
section
variable {w : World} {mg mb : Str → Option Value} {dp un : Nat} {gd : Option (List Code)} {cn : Str} {cs : Scope} {a : Addr} {ccd : Value} {cl : List (Str × Addr)} {outer : List Env} {A₀ : Around} {base h₀ : Heap} {L : Addr} {m : Str → Option Value} {s : Shared} {Q E : Value → Shared → Prop} {news : List (Addr × Obj)}
noncomputable abbrev pairObj (x y : Int) (t u : Tok) : Obj := { cls := .type "tuple", data := .seq #[.int x t, .int y u] }
noncomputable def IsPairO (o : Obj) (x y : Int) : Prop := o.cls = .type "tuple" ∧ ∃ t u n, o.data = .seq #[.int x t, .int y u] n
noncomputable def TabOk (o : Obj) : Prop := ∃ ps, o = tabObj ps ∧ TriplesOk ps.toList
theorem addP_ct {dt ds pn bm : Addr} {ot os oP ob : Obj} {kt : List (Int × Value)} {k x y : Int} {u v : Tok} (B : Below A₀ base outer h₀) (F : Fr h₀ L s.heap m) (N : News h₀ L s.heap ((54, oP) :: (dt, ot) :: (ds, os) :: (pn, pairObj x y u v) :: news)) (T : TopRead hd.view_39 (looseW hd.view_39 [Str.ofString "_twin_re_1", Str.ofString "_twin_re_2"]) mg mb h₀)
    (M : BMod h₀ mainGlobals mg bm ob) (hG : AllBare s.gens) (hoP : TabOk oP)
    (hk : cs.kind = .function) (hdp : dp + 5 < recursionLimit) (hun : un + 200 < cLine)
    (hdt : ot.IsDictOf (PySem.intKind Challenge.rw_pg0093_01.row.prog w) kt) (hds : os.IsDictOf (PySem.intKind Challenge.rw_pg0093_01.row.prog w) [(k, .ref pn)]) (lot : (dt == sysModules) = false) (los : (ds == sysModules) = false) (hlen : kt.length ≤ 100)
    (hpairs : ∀ p ∈ kt, ∃ q o x y, p.2 = .ref q ∧ (q, o) ∈ news ∧ IsPairO o x y) (h54 : Off 54 ((dt, ot) :: (ds, os) :: (pn, pairObj x y u v) :: news))
    (hret : ∀ D o oP' q oq x' y' s', AllBare s'.gens → s'.os = s.os → TabOk oP' → IsPairO oq x' y' → Fr h₀ L s'.heap m → News h₀ L s'.heap ((54, oP') :: (D, o) :: (q, oq) :: news) → (D == sysModules) = false → o.IsDictOf (PySem.intKind Challenge.rw_pg0093_01.row.prog w) (stored kt k (.ref q)) →
      (match valueAt kt k with | none => x' = x ∧ y' = y | some z => ∃ q0 o0 x0 y0, z = .ref q0 ∧ (q0, o0) ∈ news ∧ IsPairO o0 x0 y0 ∧ x' = x + x0 ∧ y' = y + y0) → Q (.ref D) s') :
    (hd.heap_39 w.params).In h₀ → wpAny (model Challenge.rw_pg0093_01.row.prog w) (ktrTop dp un gd cn cs L a ccd cl outer) (call (.ref 59) [.ref dt, .ref ds]) Q E s := by
  k_fill
  intro X
  refine wpAny_call ?_
  k_dflt (walk_at "cell_enterR")
  k_steps
  have hnd : (kt.map (·.1)).Nodup := by obtain ⟨es, ep, h1, h2, h3, h4, h5⟩ := hdt; exact h5
  rename Fr _ _ _ (fun y => if y = _ then _ else _) => F9
  rename News _ _ _ _ => N9
  rename _ ∧ _ ∧ _ ∧ _ ∧ AllLt _ _ => hl1
  have hoffd := off_allLt (l := (54, oP) :: (dt, ot) :: (ds, os) :: (pn, pairObj x y u v) :: news) hl1
  rename Obj.IsDictOf (PySem.intKind _ _) _ [] => hd0
  with_unfolding_all ((refine' For_turns F9 ?_); k_whole; (refine MethodCall_ ?_); (refine ld F9 (by rfl) ?_); (refine kdl_method (knd := PySem.intKind _ _) PySem.F.slot_dict_items PySem.F.type_dict_items N9 (.tail _ (.tail _ (.head _))) hdt ?_); (refine callWith_method0 ?_); (refine kta_callItems (knd := PySem.intKind _ _) F9 N9 (.tail _ (.tail _ (.head _))) hdt lot ?_); intro h' hv' F' N')
  clear F9 N9
  refine items_upd (σ := Option Value × Option Value × Obj) (fun a => [(Str.ofString "func", a.1), (Str.ofString "caller", a.2.1)]) (fun a => (_, a.2.2) :: (54, oP) :: (dt, ot) :: (ds, os) :: (pn, pairObj x y u v) :: news) (fun i a => a.2.2.IsDictOf (PySem.intKind Challenge.rw_pg0093_01.row.prog w) (kt.take i)) (none, none, _) rfl F' N' hv' (.tail _ (.tail _ (.head _))) hdt ⟨rfl, rfl, trivial⟩ rfl hd0 (fun _ _ _ => .tail _ (.tail _ (.head _))) ?_ ?_
  · intro I i k1 x1 a h tk T t oI hx hI hoff hc hT F' N'
    obtain ⟨q1, _, _, _, e1, _⟩ := hpairs _ (List.mem_of_getElem? hx)
    dsimp only at e1
    subst e1
    obtain ⟨a1, a2, a3⟩ := a
    dsimp only at hI hoff N' F' ⊢
    k_fold
    have ho1 := hoff _ (List.mem_cons_self ..)
    dsimp only at ho1
    k_steps
    rename Fr _ _ _ _ => F7
    rename News _ _ _ _ => N7
    refine UpdPost.fin (_, _, _) F7 ⟨rfl, rfl, trivial⟩ (fun z hz => ?_) N7 (off_swap hoff) ?_
    · have z1 := hz _ (.head _)
      have z2 := hz _ (.tail _ (.head _))
      simp only [upd, if_neg z1, if_neg z2]
    · rename Obj.IsDictOf _ _ (stored _ _ _) => hd7
      rw [stored_take hnd hx] at hd7
      exact hd7
  · intro a h tk hI F' N'
    obtain ⟨a1, a2, a3⟩ := a
    dsimp only at hI N' F' ⊢
    rw [List.take_length] at hI
    k_steps
    rename Fr _ _ _ (upd _ _) => F9
    rename News _ _ _ _ => N9
    with_unfolding_all ((refine' For_G ?_); k_whole; (refine MethodCall_ ?_); (refine ld F9 (by rfl) ?_); (refine kdl_method (knd := PySem.intKind _ _) PySem.F.slot_dict_items PySem.F.type_dict_items N9 (.tail _ (.tail _ (.tail _ (.head _)))) hds ?_); (refine callWith_method0 ?_); (refine kta_callItems (knd := PySem.intKind _ _) F9 N9 (.tail _ (.tail _ (.tail _ (.head _)))) hds los ?_); intro h' hv' F' N')
    clear F9 N9
    have N9 := nc N' (.head _) (nc N' (.tail _ (.head _)) (nc N' (.tail _ (.tail _ (.tail _ (.tail _ (.head _))))) (nd (nd N'))))
    clear N'
    have hk0 : ∀ (_ : Nat) (a : St2), True → (ds, os) ∈ ((54, a.oP) :: (a.q, a.b) :: (dt, ot) :: (ds, os) :: (pn, pairObj x y u v) :: news) := fun _ _ _ => .tail _ (.tail _ (.tail _ (.head _)))
    cases hv : valueAt kt k with
    | none =>
      rw [hv] at hret
      have hsome : (valueAt kt k).isSome = false := by rw [hv]; rfl
      refine items_updG (σ := St2) (fun a => [(Str.ofString "func", a.f), (Str.ofString "caller", a.c)]) (fun a => (_, a.o) :: (54, a.oP) :: (a.q, a.b) :: (dt, ot) :: (ds, os) :: (pn, pairObj x y u v) :: news)
        (fun i a => TabOk a.oP ∧ (a.q = pn ∧ IsPairO a.b x y) ∧ if i = 0 then a.o.IsDictOf (PySem.intKind Challenge.rw_pg0093_01.row.prog w) kt else a.o.IsDictOf (PySem.intKind Challenge.rw_pg0093_01.row.prog w) (stored kt k (.ref pn)))
        ⟨a1, a2, a3, oP, pn, pairObj x y u v⟩ rfl F' N9 hG hv' (.tail _ (.tail _ (.tail _ (.tail _ (.head _))))) hds ⟨rfl, rfl, trivial⟩ rfl ⟨hoP, ⟨rfl, rfl, _, _, _, rfl⟩, hI⟩ (fun i a _ => .tail _ (hk0 i a trivial)) ?_ ?_
      · intro I i k1 x1 a s₁ T t oI hx hI e1 G1 hoff hcI hT F' N'
        obtain ⟨rfl, rfl, rfl⟩ := one_at hx
        obtain ⟨b1, b2, b3, b4, b5, b6⟩ := a
        rw [if_pos rfl] at hI
        obtain ⟨hI1, ⟨hq1, hq2⟩, hI⟩ := hI
        dsimp only at hI hI1 hoff N' F' hq1 hq2 ⊢
        subst hq1
        k_fold
        have ho1 := hoff _ (List.mem_cons_self ..)
        dsimp only at ho1
        have hof2 := off_cons (p := (54, b4)) (hoffd (54, oP) (.head _)) (off_cons (p := (b5, b6)) (hoffd (b5, pairObj x y u v) (.tail _ (.tail _ (.tail _ (.head _))))) fun p hp => hoffd p (.tail _ hp))
        k_steps
        rename Fr _ _ _ (fun y => if y = _ then _ else _) => F7
        rename News _ _ _ _ => N7
        rename Obj.IsDictOf _ _ (stored _ _ _) => hd7
        refine UpdPostG.fin ⟨_, _, _, _, _, _⟩ G1 rfl F7 ⟨rfl, rfl, trivial⟩ (fun z hz => ?_) N7 (off_swap hoff) ⟨hI1, ⟨rfl, hq2⟩, hd7⟩
        have z1 := hz _ (.head _)
        have z2 := hz _ (.tail _ (.head _))
        simp only [upd, if_neg z1, if_neg z2]
      · intro a s' hI e1 G1 F' N'
        obtain ⟨b1, b2, b3, b4, b5, b6⟩ := a
        rw [if_neg (by simp)] at hI
        obtain ⟨hI1, ⟨hq1, hq2⟩, hI⟩ := hI
        dsimp only at hI hI1 N' F' hq1 hq2 ⊢
        subst hq1
        k_steps
        rename News _ _ _ _ => N7
        exact hret _ _ _ _ _ _ _ _ G1 e1 hI1 hq2 (by assumption) (nc N7 (.tail _ (.head _)) (nc N7 (.head _) (nc N7 (.tail _ (.tail _ (.head _))) (nd (nd (nd (nd (nd (nd N7))))))))) (by assumption) hI ⟨rfl, rfl⟩
    | some z =>
      rw [hv] at hret
      have hsome : (valueAt kt k).isSome = true := by rw [hv]; rfl
      obtain ⟨q0, o0, x0, y0, rfl, hq0, hp0⟩ : ∃ q0 o0 x0 y0, z = .ref q0 ∧ (q0, o0) ∈ news ∧ IsPairO o0 x0 y0 := by
        have hv2 := hv
        unfold valueAt at hv2
        obtain ⟨p, hp, e⟩ := Option.map_eq_some_iff.mp hv2
        obtain ⟨q, o, x, y, e0, hm, ho⟩ := hpairs p (List.mem_of_find?_eq_some hp)
        exact ⟨q, o, x, y, e ▸ e0, hm, ho⟩
      refine items_updG (σ := St2) (fun a => [(Str.ofString "func", a.f), (Str.ofString "caller", a.c)]) (fun a => (_, a.o) :: (54, a.oP) :: (a.q, a.b) :: (dt, ot) :: (ds, os) :: (pn, pairObj x y u v) :: news)
        (fun i a => TabOk a.oP ∧ if i = 0 then a.o.IsDictOf (PySem.intKind Challenge.rw_pg0093_01.row.prog w) kt ∧ a.q = pn ∧ a.b = pairObj x y u v else a.o.IsDictOf (PySem.intKind Challenge.rw_pg0093_01.row.prog w) (stored kt k (.ref a.q)) ∧ IsPairO a.b (x + x0) (y + y0))
        ⟨a1, a2, a3, oP, pn, pairObj x y u v⟩ rfl F' N9 hG hv' (.tail _ (.tail _ (.tail _ (.tail _ (.head _))))) hds ⟨rfl, rfl, trivial⟩ rfl ⟨hoP, hI, rfl, rfl⟩ (fun i a _ => .tail _ (hk0 i a trivial)) ?_ ?_
      · intro I i k1 x1 a s₁ T t oI hx hI e1 G1 hoff hcI hT F' N'
        obtain ⟨rfl, rfl, rfl⟩ := one_at hx
        obtain ⟨b1, b2, b3, b4, b5, b6⟩ := a
        rw [if_pos rfl] at hI
        obtain ⟨hI1, hI, hq1, hq2⟩ := hI
        dsimp only at hI hI1 hoff N' F' hq1 hq2 ⊢
        subst hq1 hq2
        k_fold
        have ho1 := hoff _ (List.mem_cons_self ..)
        dsimp only at ho1
        k_steps
        rename Fr h₀ L _ m => FG
        rename Fr _ _ _ (fun y => if y = _ then _ else _) => F7
        rename News _ _ _ _ => N7
        have M7 := BMod.keeps M FG.keep
        have c54 := N7 (54, b4) (.tail _ (.tail _ (.head _)))
        with_unfolding_all refine' gen_zipT (P := 54) F7 M7 ?lim rfl (Ne.symm c54.2.1) c54.2.2 rfl rfl rfl ?cell rfl rfl rfl ?ab rfl ?room rfl rfl ?_ ?hs
        case lim => rename TopRead _ _ _ _ _ => T7; exact T7.nolimit
        case cell => decide
        case ab => decide
        case room => ktr_room
        case hs => intro _; rfl
        k_steps
        clear c54
        rename Fr _ _ _ (fun y => if y = _ then _ else _) => F7
        rename News _ _ _ _ => N7
        have c54 := N7 (54, b4) (.tail _ (.tail _ (.head _)))
        obtain ⟨hp1, t0, u0, n0, hp2⟩ := hp0
        have g1 := N7 (b5, pairObj x y u v) (.tail _ (.tail _ (.tail _ (.head _))))
        have g2 := N7 (q0, o0) (.tail _ (.tail _ (.tail _ (.tail _ (.tail _ (.tail _ (.tail _ hq0)))))))
        refine call_zipT (xs := [Value.int x u, .int y v].toArray) (ys := [Value.int x0 t0, .int y0 u0].toArray) ⟨_, g1.1, rfl, _, rfl⟩ ⟨_, g2.1, hp1, _, hp2⟩ fun h' Z' sz' up' => ?_
        obtain ⟨ps4, htab, htri⟩ := hI1
        have hb5 : b5 ≠ 54 := h54 (b5, pairObj x y u v) (.tail _ (.tail _ (.head _)))
        have hq54 : q0 ≠ 54 := h54 (q0, o0) (.tail _ (.tail _ (.tail _ hq0)))
        have hd54 : _ ≠ 54 := Ne.symm (hoffd (54, oP) (.head _))
        have hI54 : I ≠ 54 := Ne.symm (hoff (54, b4) (.tail _ (.head _)))
        refine ⟨_, b5, q0, [.int x u, .int y v], [.int x0 t0, .int y0 u0], [(x, x0), (y, y0)], ps4, rfl, Z', Heap.lt_size g1.1, Heap.lt_size g2.1, hb5, hq54, F7.ns.lt, Heap.lt_size c54.1, rfl, rfl, ?_, F7.keeps up', G1, ⟨code58 (w := w) (Frag.In.keeps (by assumption) (F7.keeps up').keep) (up' _ _ c54.1) (by rw [htab]) htri, table58 (w := w) (Frag.In.keeps (by assumption) (F7.keeps up').keep) (htab ▸ up' _ _ c54.1)⟩, ?_⟩
        · intro i p hi
          match i, hi with
          | 0, hi => cases hi; exact ⟨_, _, rfl, rfl⟩
          | 1, hi => cases hi; exact ⟨_, _, rfl, rfl⟩
          | i + 2, hi => cases hi
        · intro a5 s5 ps5 F5 G5 o5 up5 cd5 tb5 GN
          have cd5' := cd5
          obtain ⟨_, _, _, _, _, _, _, _, _, op5, _, _, _, _, _, _, _, hop5, hpd5, htr5, _⟩ := cd5'
          have e54 : op5 = tabObj ps5 := by
            have := tb5.2
            rw [hop5] at this
            exact Option.some.inj this
          clear tb5
          have N5 := news_grown (pre := [_, _]) N7 (off_cons hI54 (off_cons hd54 fun p hp => by cases hp)) (off_cons hb5 h54) (fun b o hb e => up5 b o hb (up' b o e)) hop5
          have lt5 : ∀ p ∈ [(I, oI), (_, b3)] ++ (54, op5) :: (b5, pairObj x y u v) :: (dt, ot) :: (ds, os) :: (b5, pairObj x y u v) :: news, @LT.lt Nat _ p.1 _ := addr_lt (l' := [(I, oI), (_, b3)] ++ (54, b4) :: (b5, pairObj x y u v) :: (dt, ot) :: (ds, os) :: (b5, pairObj x y u v) :: news) rfl fun p hp => Heap.lt_size (N7 p hp).1
          have hLn := F7.ns.lt
          clear F7 N7 g1 g2 c54 Z' up' up5 cd5 sz'
          k_steps
          refine tuple_genD F5 G5 GN (Nat.le_sub_one_of_lt hLn) (fun s6 D6 ys F6 G6 os6 up6 hD0 hT6 hC6 => ?_) (by show 2 ≤ sizeLine; rw [sizeLine_eq]; decide)
          have hC : CarriedAll ys [PyData.int (x + x0), PyData.int (y + y0)] := hC6
          clear hC6
          obtain ⟨o6, ho6, hc6, nn6, hd6⟩ := hT6
          have hp6 : IsPairO o6 (x + x0) (y + y0) := by
            cases hC with
            | cons c1 r =>
              cases r with
              | cons c2 r2 =>
                cases r2
                cases c1
                cases c2
                exact ⟨hc6, _, _, _, hd6⟩
          have N6 := news_le N5 lt5 up6
          have hDL := tup_ne_frame F6 ho6 hd6
          have hDI : D6 ≠ I := fun e => by
            have := (N6 (I, oI) (.head _)).1
            rw [← e, ho6] at this
            cases this
            rw [hcI] at hc6
            exact absurd hc6 (by decide)
          have hDd := tup_ne_dict N6 (.tail _ (.head _)) hI ho6 hd6
          have N7 := nc N6 (.head _) (nc N6 (.tail _ (.head _)) (nc N6 (.tail _ (.tail _ (.head _))) (news_new N6 ho6 hDL hD0 (nd (nd (nd (nd N6)))))))
          have hof2 := off_cons (p := (54, op5)) (hoffd (54, oP) (.head _)) (off_cons (p := (D6, o6)) hDd fun p hp => hoffd p (.tail _ hp))
          clear N5 N6 F5 lt5 up6
          k_steps
          rename Fr _ _ _ (fun y => if y = _ then _ else _) => F7
          rename News _ _ _ _ => N7
          rename Obj.IsDictOf _ _ (stored _ _ _) => hd7
          refine UpdPostG.fin ⟨_, _, _, op5, D6, o6⟩ G6 (os6.trans o5) F7 ⟨rfl, rfl, trivial⟩ (fun z hz => ?_) N7 (off_cons ho1 (off_cons (Ne.symm hI54) (off_cons hDI fun p hp => hoff p (.tail _ (.tail _ (.tail _ hp)))))) ⟨⟨_, e54, htr5⟩, hd7, hp6⟩
          have z1 := hz _ (.head _)
          have z2 := hz _ (.tail _ (.head _))
          simp only [upd, if_neg z1, if_neg z2]
      · intro a s' hI e1 G1 F' N'
        obtain ⟨b1, b2, b3, b4, b5, b6⟩ := a
        rw [if_neg (by simp)] at hI
        obtain ⟨hI1, hI, hq2⟩ := hI
        dsimp only at hI hI1 N' F' hq2 ⊢
        k_steps
        rename News _ _ _ _ => N7
        exact hret _ _ _ _ _ _ _ _ G1 e1 hI1 hq2 (by assumption) (nc N7 (.tail _ (.head _)) (nc N7 (.head _) (nc N7 (.tail _ (.tail _ (.head _))) (nd (nd (nd (nd (nd (nd N7))))))))) (by assumption) hI ⟨_, _, _, _, rfl, hq0, hp0, rfl, rfl⟩
end
end Mine
end
-- PA
section
open PySem PySem.W PySem.Calls PyProof.Rows
set_option maxRecDepth 100000
namespace Mine
/-- the partitions of l into parts of at most m, the greatest first -/
noncomputable def pn : Nat → Nat → Nat → List (List Int)
  | _, 0, _ => [[]]
  | 0, _ + 1, _ => []
  | f + 1, l + 1, m => (List.range (min (l + 1) m)).flatMap fun i => (pn f (l - i) (i + 1)).map (((i : Int) + 1) :: ·)
theorem flat_count {g : Nat → List (List Int)} {l : Nat} (h : ∀ i, i ≤ l → (g i).length ≤ 2 ^ (l - i)) : ∀ k, k ≤ l + 1 → ((List.range k).flatMap g).length + 2 ^ (l + 1 - k) ≤ 2 ^ (l + 1)
  | 0, _ => by simp
  | k + 1, hk => by
    have ih := flat_count h k (by omega)
    have hg := h k (by omega)
    rw [List.range_succ, List.flatMap_append, List.length_append]
    simp only [List.flatMap_cons, List.flatMap_nil, List.append_nil]
    have e : 2 ^ (l + 1 - k) = 2 ^ (l - k) + 2 ^ (l - k) := by
      rw [show l + 1 - k = (l - k) + 1 by omega, Nat.pow_succ]; omega
    rw [show l + 1 - (k + 1) = l - k by omega]
    omega
theorem pn_count : ∀ f l m, (pn f l m).length ≤ 2 ^ l
  | _, 0, _ => by simp [pn]
  | 0, _ + 1, _ => by simp [pn]
  | f + 1, l + 1, m => by
    rw [pn]
    have := flat_count (g := fun i => (pn f (l - i) (i + 1)).map (((i : Int) + 1) :: ·)) (l := l) (fun i _ => by simpa using pn_count f (l - i) (i + 1)) (min (l + 1) m) (by omega)
    exact Nat.le_trans (Nat.le_add_right _ _) this
theorem pn_len : ∀ f l m q, q ∈ pn f l m → q.length ≤ l
  | f, 0, m, q, h => by
    have : q = [] := by simpa [pn] using h
    simp [this]
  | 0, _ + 1, _, q, h => by simp [pn] at h
  | f + 1, l + 1, m, q, h => by
    rw [pn] at h
    obtain ⟨i, _, h2⟩ := List.mem_flatMap.mp h
    obtain ⟨q', hq', rfl⟩ := List.mem_map.mp h2
    have := pn_len f (l - i) (i + 1) q' hq'
    simp; omega
inductive Rows : List (Addr × Obj) → List (List Int) → Prop
  | nil : Rows [] []
  | cons {r : Addr} {vs : List Value} {n : Nat} {p : List Int} {rs : List (Addr × Obj)} {ps : List (List Int)} : IntsAre vs p → Rows rs ps → Rows ((r, listObj vs n) :: rs) (p :: ps)
theorem Rows.append : ∀ {a b : List (Addr × Obj)} {p q : List (List Int)}, Rows a p → Rows b q → Rows (a ++ b) (p ++ q)
  | [], _, _, _, .nil, h => h
  | _ :: _, _, _, _, .cons hi r, h => .cons hi (r.append h)
theorem Rows.length : ∀ {a : List (Addr × Obj)} {p : List (List Int)}, Rows a p → a.length = p.length
  | [], _, .nil => rfl
  | _ :: _, _, .cons _ r => by simp [r.length]
theorem Rows.get : ∀ {a : List (Addr × Obj)} {p : List (List Int)}, Rows a p → ∀ (i : Nat) (r : Addr × Obj), a[i]? = some r → ∃ vs n q, r.2 = listObj vs n ∧ p[i]? = some q ∧ IntsAre vs q
  | [], _, .nil, i, r, h => by simp at h
  | _ :: _, _, .cons hi R, 0, r, h => by
    simp at h; subst h; exact ⟨_, _, _, rfl, rfl, hi⟩
  | _ :: _, _, .cons hi R, i + 1, r, h => by
    simp at h; simpa using R.get i r h
noncomputable abbrev refs (rs : List (Addr × Obj)) : List Value := rs.map fun r => .ref r.1
section
variable {prog : Program} {w : World} {A : Around} {E : Value → Shared → Prop} {s : Shared} {h₀ : Heap} {L : Addr} {m : Str → Option Value} {news : List (Addr × Obj)}
theorem extend_led {pre post : List (Addr × Obj)} {l b : Addr} {vs ws : List Value} {n n2 : Nat} {Q : Value → Shared → Prop} (F : Fr h₀ L s.heap m) (N : News h₀ L s.heap (pre ++ (l, listObj vs n) :: post)) (h1 : Off l pre) (h2 : Off l post)
    (hb : (b, listObj ws n2) ∈ pre ++ (l, listObj vs n) :: post) (hsz : vs.length + ws.length ≤ 10000)
    (h : ∀ h' n', Fr h₀ L h' m → News h₀ L h' (pre ++ (l, listObj (vs ++ ws) n') :: post) → Q .none { s with heap := h' }) : wpAny (model prog w) A (call (.builtin "list.extend") [.ref l, .ref b]) Q E s := by
  have hl := N.get (List.mem_append_right _ (List.mem_cons_self ..))
  have hbb := N.get hb
  have hz : vs.toArray.size + ws.toArray.size ≤ 10000 := by simpa using hsz
  have hS : sizeLine = 16777216 := by decide
  refine call_meets PySem.F.slot_list_extend ⟨_, hl, rfl⟩ PySem.F.entry_list_extend (PySem.F.args_list_extend_2 _ _) (PySem.AutoSeq1.list_extend_list_list_0 l vs.toArray n b ws.toArray n2 ?_ (by omega) (by omega)) ⟨hl, hbb, ?_⟩
  · rw [Bool.not_eq_true, Bool.and_eq_false_iff]
    right
    show decide (_ > sizeLine) = false
    simp only [decide_eq_false_iff_not]
    omega
  obtain ⟨n', e⟩ : ∃ n', Obj.mapSeq (fun xs => xs ++ ws.toArray) (listObj vs n) = listObj (vs ++ ws) n' := by
    have : vs.toArray ++ ws.toArray = (vs ++ ws).toArray := by simp
    exact ⟨_, by unfold Obj.mapSeq; simp only [this]; rfl⟩
  obtain ⟨F', N'⟩ := news_upd (f := Obj.mapSeq fun xs => xs ++ ws.toArray) F N h1 h2 e rfl
  exact h _ n' F' N'
theorem add_led {l b : Addr} {vs ws : List Value} {n n2 : Nat} {Q : Value → Shared → Prop} (F : Fr h₀ L s.heap m) (N : News h₀ L s.heap news) (hl : (l, listObj vs n) ∈ news) (hb : (b, listObj ws n2) ∈ news) (hsz : vs.length + ws.length ≤ 10000)
    (h : ∀ D h', (∀ p ∈ news, p.1 < D) → Fr h₀ L h' m → News h₀ L h' ((D, listObj (vs ++ ws) 0) :: news) → Q (.ref D) { s with heap := h' }) : wpAny (model prog w) A (binaryOp .Add (.ref l) (.ref b)) Q E s :=
  add_lists F N ⟨_, N.get hl, rfl, n, rfl⟩ ⟨_, N.get hb, rfl, n2, rfl⟩ (fun h' F' N' => h _ h' (fun p hp => Heap.lt_size (N p hp).1) F' N') (by rw [sizeLine_eq]; omega)
end
end Mine
end
-- PB
section
open PySem PySem.W PySem.Calls PyProof.Rows
set_option maxRecDepth 100000
set_option maxHeartbeats 8000000
namespace Mine
noncomputable def PartsC (w : World) (mg mb : Str → Option Value) (f : Nat) : Prop :=
  ∀ (left most : Nat) (t u : Tok) (dp un : Nat) (gd : Option (List Code)) (cn : Str) (cs : Scope) (a : Addr) (ccd : Value) (cl : List (Str × Addr)) (outer : List Env) (A₀ : Around) (base h₀ : Heap) (L : Addr) (m : Str → Option Value) (s : Shared) (Q E : Value → Shared → Prop) (news : List (Addr × Obj)),
    left ≤ f → left ≤ 7 → 1 ≤ most → most ≤ 7 → Below A₀ base outer h₀ → Fr h₀ L s.heap m → News h₀ L s.heap news → TopRead hd.view_39 (looseW hd.view_39 [Str.ofString "_twin_re_1", Str.ofString "_twin_re_2"]) mg mb h₀ →
    cs.kind = .function → dp + 3 * f + 5 < recursionLimit → un + 20 * f + 100 < cLine → AllBare s.gens →
    (∀ D n rs (s' : Shared), s'.os = s.os → AllBare s'.gens → Rows rs (pn f left most) → Fr h₀ L s'.heap m → News h₀ L s'.heap ((D, listObj (refs rs) n) :: (rs ++ news)) → Q (.ref D) s') →
    (hd.heap_39 w.params).In h₀ → wpAny (model Challenge.rw_pg0093_01.row.prog w) (ktrTop dp un gd cn cs L a ccd cl outer) (call (.ref 81) [.int left t, .int most u]) Q E s
local macro_rules | `(tactic| walk_at "storeName") => `(tactic| ((rename Fr _ _ _ _ => F9); (rename News _ _ _ _ => N9); (with_unfolding_all refine' storeX_C F9 N9 rfl (UpdF.tail (Ne.symm (by assumption)) (UpdF.tail (Ne.symm (by assumption)) (UpdF.head (by assumption)))) (by assumption) ?_); clear F9 N9; intro h' o' F' N' hd'; (try dsimp only)))
noncomputable def Hold (p : Prop) : Prop := p
theorem hold {p : Prop} (h : Hold p) : p := h
theorem unhold {p : Prop} (h : p) : Hold p := h
local macro_rules | `(tactic| walk_at "eval ListComp") => `(tactic| ((rename Fr _ _ _ _ => F9); k_dflt (refine LCg.ListComp_U (F₀ := F9) (by with_unfolding_all rfl) (by decide) (by rfl) (by decide) (by rfl) ?_)))
local macro_rules | `(tactic| walk_at "call ref") => `(tactic| ((with_reducible show wpAny _ _ (call (Value.ref 81) _) _ _ _); refine hold ?_))
local macro_rules | `(tactic| walk_at "call builtin:list.extend") => `(tactic| refine hold ?_)
local macro_rules | `(tactic| walk_at "binaryOp Add ref ref") => `(tactic| refine hold ?_)
theorem range_ok (k : Nat) (h : k ≤ 7) : Builtin.Range.small 1 ((k : Int) + 1) 1 = true ∧ Builtin.Range.rangeSize 1 ((k : Int) + 1) 1 = (k : Int) := by
  have : ∀ k : Fin 8, Builtin.Range.small 1 ((k.val : Int) + 1) 1 = true ∧ Builtin.Range.rangeSize 1 ((k.val : Int) + 1) 1 = (k.val : Int) := by decide +kernel
  exact this ⟨k, by omega⟩
theorem min_is (l most : Nat) : (if (most : Int) < ((l + 1 : Nat) : Int) then (most : Int) else ((l + 1 : Nat) : Int)) = ((min (l + 1) most : Nat) : Int) := by
  split <;> omega
structure St3 where
  rs : List (Addr × Obj)
  n : Nat
  c : Obj
theorem parts_step {w : World} {mg mb : Str → Option Value} {f : Nat} (ih : PartsC w mg mb f) : PartsC w mg mb (f + 1) := by
  intro left most t u dp un gd cn cs a ccd cl outer A₀ base h₀ L m s Q E news hlf hl7 hm1 hm7 B F N T hk hdp hun hG hret
  cases left with
  | zero =>
    k_fill
    intro X
    refine wpAny_call ?_
    k_dflt (walk_at "cell_enterC")
    k_steps
    rename News _ _ _ _ => N7
    exact hret _ _ [(_, listObj [] 0)] _ rfl hG (.cons .nil .nil) (by assumption) (nc N7 (.head _) (nc N7 (.tail _ (.head _)) (nd (nd (nd N7)))))
  | succ l =>
    k_fill
    intro X
    refine wpAny_call ?_
    have h0 : (((l + 1 : Nat) : Int) == 0) = false := by simp; omega
    k_dflt (walk_at "cell_enterC")
    k_steps
    rename_i g7 L7 _ _ FG7 B7 X7 T7 hlN o7 d17 _ D7 _ hl1 _ F7 N7
    have hcd : L7 + 1 ≠ D7 := Nat.ne_of_lt hl1.1
    have offD0 : Off D7 news := off_allLt hl1.2
    have offC0 : Off (L7 + 1) news := fun p hp => Nat.ne_of_lt (Nat.lt_succ_of_lt (hlN p hp))
    with_unfolding_all (refine' For_G ?_)
    k_steps
    rename Fr _ _ _ (fun y => if y = _ then _ else _) => F9
    rename News _ _ _ _ => N9
    rename IsRange _ _ _ _ _ _ _ _ => hr
    refine range_updG (σ := St3) (fun a => []) (fun a => (D7, listObj (refs a.rs) a.n) :: (L7 + 1, a.c) :: (a.rs ++ news)) (fun i a => (∃ v, a.c.data = .cell v) ∧ (Off D7 (a.rs ++ news) ∧ Off (L7 + 1) (a.rs ++ news)) ∧ Rows a.rs ((List.range i).flatMap fun j => (pn f (l - j) (j + 1)).map (((j : Int) + 1) :: ·))) ⟨[], 0, _⟩ (n := min (l + 1) most) rfl F9 N9 hG hr ?_ ?_ trivial rfl ⟨⟨_, d17⟩, ⟨offD0, offC0⟩, .nil⟩ ?_ ?_
    · rw [min_is]; exact (range_ok _ (by omega)).1
    · rw [min_is]; exact (range_ok _ (by omega)).2
    · intro I i ti a s₁ oI hi hI e1 G1 hoff hcI F' N'
      obtain ⟨rs, n, c⟩ := a
      obtain ⟨⟨cv, hcv⟩, ⟨hoD, hoC⟩, hR⟩ := hI
      dsimp only at hcv hR hoff hoD hoC F' N' ⊢
      k_fold
      have hID : D7 ≠ I := hoff (D7, listObj (refs rs) n) (.head _)
      have hIC : L7 + 1 ≠ I := hoff (L7 + 1, c) (.tail _ (.head _))
      k_steps
      refine unhold ?_
      rename Fr _ _ _ _ => F8
      rename News _ _ _ _ => N8
      rename Obj => c8
      rename c8.data = _ => hc8
      have ea : ((l + 1 : Nat) : Int) - (1 + (i : Int)) = ((l - i : Nat) : Int) := by omega
      have eb : (1 + (i : Int)) = ((i + 1 : Nat) : Int) := by omega
      rw [ea, eb]
      with_unfolding_all refine' ih (l - i) (i + 1) _ _ _ _ _ _ _ _ _ _ _ _ _ _ _ _ _ _ _ _ (by omega) (by omega) (by omega) (by omega) B7 F8 N8 T7 rfl ?hdd ?huu G1 ?_ X7
      case hdd => (dsimp only [ktrTop]; omega)
      case huu => (dsimp only [ktrTop]; omega)
      intro D2 n2 rs2 s2 os2 G2 R2 F2 N2
      have N3 : News g7 L7 s2.heap ((L7 + 1, c8) :: (D2, listObj (refs rs2) n2) :: (I, oI) :: (D7, listObj (refs rs) n) :: (rs2 ++ (rs ++ news))) := fun p hp => N2 p (by
        simp only [List.mem_cons, List.mem_append] at hp ⊢
        rcases hp with h | h | h | h | h | h | h <;> simp [h])
      clear N2 N8 F8
      refine LCg.CompSrc.ledger (k := n2) rfl F2 N3 (.tail _ (.head _)) ?hsz ?_
      case hsz => (have := R2.length; have := pn_count f (l - i) (i + 1); have h128 : 2 ^ (l - i) ≤ 2 ^ 7 := Nat.pow_le_pow_right (by decide) (by omega); rw [sizeLine_eq]; simp only [List.size_toArray, List.length_map]; omega)
      intro g
      refine comp_upd (σ := List (Addr × Obj)) (fun bs => (L7 + 1, c8) :: (D2, listObj (refs rs2) n2) :: (I, oI) :: (D7, listObj (refs rs) n) :: (bs ++ (rs2 ++ (rs ++ news)))) refs
        (fun j bs => Rows bs (((pn f (l - i) (i + 1)).take j).map (((i : Int) + 1) :: ·)) ∧ ∀ b ∈ bs, @LT.lt Nat _ (L7 + 1) b.1 ∧ @LT.lt Nat _ I b.1 ∧ @LT.lt Nat _ D7 b.1) ?_ ?_ _ 0 [] (Nat.zero_add _) ⟨.nil, fun b hb => by cases hb⟩
      · intro j v bs I' oI' C' oC' Dl m₂ h' tk' E' hj hv hInv hC hx F4 N4 hof hne
        obtain ⟨hRb, hfr⟩ := hInv
        obtain ⟨r, rfl, vs, nn, q, hq, hmr, hir⟩ : ∃ r, v = .ref r ∧ ∃ vs nn q, (pn f (l - i) (i + 1))[j]? = some q ∧ (r, listObj vs nn) ∈ rs2 ∧ IntsAre vs q := by
          have hv' : (refs rs2)[j]? = some v := by simpa using hv
          rw [List.getElem?_map] at hv'
          obtain ⟨p, hp, e⟩ := Option.map_eq_some_iff.mp hv'
          obtain ⟨vs, nn, q, e2, hq, hi⟩ := R2.get j p hp
          exact ⟨p.1, e.symm, vs, nn, q, hq, e2 ▸ List.mem_of_getElem? hp, hi⟩
        have hqlen := pn_len _ _ _ _ (List.mem_of_getElem? hq)
        have hvlen := hir.length
        k_steps
        refine unhold ?_
        rename Fr _ _ _ _ => F8
        rename News _ _ _ _ => N8
        refine add_led (vs := [Value.int (1 + (i : Int)) ti]) F8 N8 (.head _) (.tail _ (.tail _ (.tail _ (.tail _ (.tail _ (.tail _ (.tail _ (.tail _ (List.mem_append_right _ (List.mem_append_left _ hmr)))))))))) (by simp only [List.length_cons, List.length_nil]; omega) fun D3 h3 hlt F6 N6 => ?_
        refine ⟨_, _, bs ++ [(D3, listObj (Value.int (1 + (i : Int)) ti :: vs) 0)], rfl, F6, ?_, ?_, ?_, ?_, ?_, ?_⟩
        · intro p hp
          refine N6 p ?_
          simp only [List.mem_cons, List.mem_append, List.not_mem_nil, or_false] at hp ⊢
          rcases hp with h | h | h | h | h | h | h | (h | h) | h | h | h <;> simp [h]
        · refine LCg.Off3.of fun p hp => ?_
          have hnI : D3 ≠ I' := Nat.ne_of_gt (hlt (I', oI') (.tail _ (.head _)))
          have hnC : D3 ≠ C' := Nat.ne_of_gt (hlt (C', oC') (.tail _ (.tail _ (.head _))))
          have hnD : D3 ≠ Dl := Nat.ne_of_gt (hlt (Dl, LCg.lst (refs bs)) (.tail _ (.tail _ (.tail _ (.head _)))))
          have hold' := LCg.Off3.mem hof
          simp only [List.mem_cons, List.mem_append, List.not_mem_nil, or_false] at hp
          rcases hp with h | h | h | h | (h | h) | h | h | h
          · exact hold' p (by simp [h])
          · exact hold' p (by simp [h])
          · exact hold' p (by simp [h])
          · exact hold' p (by simp [h])
          · exact hold' p (by simp [h])
          · subst h; exact ⟨hnI, hnC, hnD⟩
          · exact hold' p (by simp [h])
          · exact hold' p (by simp [h])
          · exact hold' p (by simp [h])
        · exact .inr ⟨_, .tail _ (.head _), rfl, _, rfl⟩
        · simp [refs]
        · rw [List.take_succ, hq, List.map_append]
          refine hRb.append ?_
          have e3 : (i : Int) + 1 = 1 + (i : Int) := by omega
          show Rows _ [((i : Int) + 1) :: q]
          rw [e3]
          exact .cons (.cons _ _ hir) .nil
        · intro b hb
          rcases List.mem_append.mp hb with hb | hb
          · exact hfr b hb
          · rw [List.mem_singleton.mp hb]
            exact ⟨hlt (L7 + 1, c8) (by simp), hlt (I, oI) (by simp), hlt (D7, listObj (refs rs) n) (by simp)⟩
      · intro bs hInv D h' tk' F5 N5 ho5
        obtain ⟨hRb, hfr⟩ := hInv
        have htake : (pn f (l - i) (i + 1)).take (refs rs2).toArray.size = pn f (l - i) (i + 1) := by
          rw [List.take_of_length_le]; have := R2.length; simp only [List.size_toArray, List.length_map]; omega
        rw [htake] at hRb
        have hc1 := pn_count f (l - i) (i + 1)
        have hc2 := flat_count (g := fun i => (pn f (l - i) (i + 1)).map (((i : Int) + 1) :: ·)) (l := l) (fun i _ => by simpa using pn_count f (l - i) (i + 1)) i (by omega)
        replace hc2 := Nat.le_trans (Nat.le_add_right _ _) hc2
        have h128 : 2 ^ (l - i) ≤ 2 ^ 7 := Nat.pow_le_pow_right (by decide) (by omega)
        have h129 : 2 ^ (l + 1) ≤ 2 ^ 7 := Nat.pow_le_pow_right (by decide) (by omega)
        have hl1' := hR.length
        have hl2' := hRb.length
        k_steps
        refine unhold ?_
        rename Fr _ _ _ (upd _ _) => F8
        rename News _ _ _ _ => N8
        have N9 : News g7 L7 h' ([(I, oI), (D, LCg.lst (refs bs))] ++ (D7, listObj (refs rs) n) :: ((L7 + 1, c8) :: ((rs ++ bs) ++ news))) := fun p hp => N8 p (by
          simp only [List.mem_cons, List.mem_append, List.not_mem_nil, or_false] at hp ⊢
          rcases hp with (h | h) | h | h | (h | h) | h <;> simp [h])
        have oD : Off D7 ((rs ++ bs) ++ news) := fun p hp => by
          simp only [List.mem_append] at hp
          rcases hp with (h | h) | h
          · exact hoD p (List.mem_append_left _ h)
          · exact Nat.ne_of_gt (hfr p h).2.2
          · exact hoD p (List.mem_append_right _ h)
        have oC : Off (L7 + 1) ((rs ++ bs) ++ news) := fun p hp => by
          simp only [List.mem_append] at hp
          rcases hp with (h | h) | h
          · exact hoC p (List.mem_append_left _ h)
          · exact Nat.ne_of_gt (hfr p h).1
          · exact hoC p (List.mem_append_right _ h)
        have oI2 : Off I ((rs ++ bs) ++ news) := fun p hp => by
          simp only [List.mem_append] at hp
          rcases hp with (h | h) | h
          · exact hoff p (.tail _ (.tail _ (List.mem_append_left _ h)))
          · exact Nat.ne_of_gt (hfr p h).2.1
          · exact hoff p (.tail _ (.tail _ (List.mem_append_right _ h)))
        refine extend_led (pre := [(I, oI), (D, LCg.lst (refs bs))]) (post := (L7 + 1, c8) :: ((rs ++ bs) ++ news)) (ws := refs bs) (n2 := (refs bs).length) F8 N9 (off_cons (Ne.symm hID) (off_cons (Ne.symm ho5.2.2.2.1) fun p hp => by cases hp)) (off_cons hcd oD) (.tail _ (.head _)) ?hz fun h9 n9 F10 N10 => ?_
        case hz => (simp only [List.length_map]; simp only [List.length_map] at hl2'; omega)
        have N11 : News g7 L7 h9 ((I, oI) :: (D7, listObj (refs (rs ++ bs)) n9) :: (L7 + 1, c8) :: ((rs ++ bs) ++ news)) := by
          have e9 : refs (rs ++ bs) = refs rs ++ refs bs := List.map_append
          rw [e9]
          exact nc N10 (.head _) (nd (nd N10))
        clear N10
        k_steps
        rename Fr _ _ _ (upd _ _) => F12
        rename News _ _ _ _ => N12
        refine UpdPostG.fin ⟨rs ++ bs, n9, c8⟩ G2 os2 F12 trivial (fun z _ => rfl) N12 (off_cons hID (off_cons hIC oI2)) ⟨⟨_, hc8⟩, ⟨oD, oC⟩, ?_⟩
        rw [List.range_succ, List.flatMap_append]
        refine hR.append ?_
        simpa using hRb
    · intro a s' hI e1 G1 F' N'
      obtain ⟨rs, n, c⟩ := a
      obtain ⟨_, _, hR⟩ := hI
      dsimp only at hR F' N' ⊢
      k_steps
      rename News _ _ _ _ => N7
      exact hret D7 n rs s' e1 G1 (by rw [pn]; exact hR) (by assumption) (nc N7 (.head _) (nd (nd N7)))
theorem parts_zero {w : World} {mg mb : Str → Option Value} : PartsC w mg mb 0 := by
  intro left most t u dp un gd cn cs a ccd cl outer A₀ base h₀ L m s Q E news hlf hl7 hm1 hm7 B F N T hk hdp hun hG hret
  have : left = 0 := by omega
  subst this
  k_fill
  intro X
  refine wpAny_call ?_
  k_dflt (walk_at "cell_enterC")
  k_steps
  rename News _ _ _ _ => N7
  exact hret _ _ [(_, listObj [] 0)] _ rfl hG (.cons .nil .nil) (by assumption) (nc N7 (.head _) (nc N7 (.tail _ (.head _)) (nd (nd (nd N7)))))
theorem parts_ct (w : World) (mg mb : Str → Option Value) : ∀ f, PartsC w mg mb f
  | 0 => parts_zero
  | f + 1 => parts_step (parts_ct w mg mb f)
end Mine
end
-- H0
section
open PySem PySem.W PySem.Calls PyProof.Rows
namespace Mine
noncomputable def addD (d : List (Int × Int)) (k : Int) : List (Int × Int) := if d.any (fun p => p.1 = k) then d.map (fun p => if p.1 = k then (p.1, p.2 + 1) else p) else d ++ [(k, 1)]
inductive DV : List (Int × Value) → List (Int × Int) → Prop
  | nil : DV [] []
  | cons {k c : Int} {t : Tok} {kvs : List (Int × Value)} {d : List (Int × Int)} : DV kvs d → DV ((k, .int c t) :: kvs) ((k, c) :: d)
theorem DV.any {kvs : List (Int × Value)} {d : List (Int × Int)} (h : DV kvs d) (k : Int) : kvs.any (fun p => p.1 = k) = d.any (fun p => p.1 = k) := by
  induction h with
  | nil => rfl
  | cons h ih => simp only [List.any_cons, ih]
theorem DV.snoc {kvs : List (Int × Value)} {d : List (Int × Int)} {k c : Int} {t : Tok} (h : DV kvs d) : DV (kvs ++ [(k, .int c t)]) (d ++ [(k, c)]) := by
  induction h with
  | nil => exact .cons .nil
  | cons h ih => exact .cons ih
theorem DV.set {kvs : List (Int × Value)} {d : List (Int × Int)} {k c0 c1 : Int} {t : Tok} (h : DV kvs d) (hk : ∀ p ∈ d, p.1 = k → p.2 = c0) : DV (kvs.map fun p => if p.1 = k then (p.1, .int (c0 + c1) t) else p) (d.map fun p => if p.1 = k then (p.1, p.2 + c1) else p) := by
  induction h with
  | nil => exact .nil
  | @cons k' c' t' kvs d h ih =>
    have ih' := ih fun p hp => hk p (List.mem_cons_of_mem _ hp)
    simp only [List.map_cons]
    by_cases e : k' = k
    · rw [if_pos e, if_pos e]
      have : c' = c0 := hk (k', c') (List.mem_cons_self ..) e
      subst this
      exact .cons ih'
    · rw [if_neg e, if_neg e]
      exact .cons ih'
theorem DV.keys {kvs : List (Int × Value)} {d : List (Int × Int)} (h : DV kvs d) : kvs.map (·.1) = d.map (·.1) := by
  induction h with
  | nil => rfl
  | cons h ih => simp [ih]
theorem DV.at {kvs : List (Int × Value)} {d : List (Int × Int)} {k : Int} (h : DV kvs d) (hn : (kvs.map (·.1)).Nodup) {c0 : Int} {t0 : Tok} (hv : valueAt kvs k = some (.int c0 t0)) : ∀ p ∈ d, p.1 = k → p.2 = c0 := by
  induction h with
  | nil => intro p hp; cases hp
  | @cons k' c' t' kvs d h ih =>
    intro p hp e
    simp only [List.map_cons, List.nodup_cons] at hn
    rcases List.mem_cons.mp hp with rfl | hp
    · subst e
      simp [valueAt] at hv
      exact hv.1
    · have hne : k' ≠ k := fun q => hn.1 (by rw [q, ← e, h.keys]; exact List.mem_map_of_mem hp)
      refine ih hn.2 ?_ p hp e
      simpa [valueAt, hne] using hv
theorem DV.stored {kvs : List (Int × Value)} {d : List (Int × Int)} {k : Int} {v : Value} (h : DV kvs d) (hn : (kvs.map (·.1)).Nodup) (hv : match valueAt kvs k with | none => ∃ t, v = .int 1 t | some x => ∃ c0 t0 t, x = .int c0 t0 ∧ v = .int (c0 + 1) t) : DV (stored kvs k v) (addD d k) := by
  unfold PySem.stored addD
  rw [h.any k]
  cases hva : valueAt kvs k with
  | none =>
    rw [hva] at hv
    obtain ⟨t, rfl⟩ := hv
    have : d.any (fun p => p.1 = k) = false := by
      rw [← h.any k]
      unfold valueAt at hva
      rw [Option.map_eq_none_iff, List.find?_eq_none] at hva
      rw [List.any_eq_false]
      exact hva
    rw [this]
    exact h.snoc
  | some x =>
    rw [hva] at hv
    obtain ⟨c0, t0, t, rfl, rfl⟩ := hv
    have : d.any (fun p => p.1 = k) = true := by
      rw [← h.any k]
      unfold valueAt at hva
      obtain ⟨p, hp, _⟩ := Option.map_eq_some_iff.mp hva
      rw [List.any_eq_true]
      exact ⟨p, List.mem_of_find?_eq_some hp, by simpa using List.find?_some hp⟩
    rw [this]
    exact h.set (h.at hn hva)
end Mine
end
-- H1
section
open PySem PySem.W PySem.Calls PyProof.Rows
set_option maxRecDepth 100000
set_option maxHeartbeats 8000000
namespace Mine
structure En where
  c0 : Int
  c1 : Int
  c2 : Int
  s : Int
  d : List (Int × Int)
noncomputable def hearRow (t : Nat) (e : En) (n : Nat) : En := if (n + t) % 3 = 0 then ⟨(if t = 3 then 1 else 0) + e.c0, (if t = 2 then 1 else 0) + e.c1, (if t = 1 then 1 else 0) + e.c2, n + e.s, addD e.d n⟩ else e
noncomputable def hearTurn (ns : List Nat) (e : En) (t : Nat) : En := ns.foldl (hearRow t) e
noncomputable def heardS (ns : List Nat) : En := [1, 2, 3].foldl (hearTurn ns) ⟨0, 0, 0, 0, []⟩
structure SH where
  mail : Str
  tm : Tok
  row : Option Value
  part : Option Value
  left : Option Value
  T : Addr
  D : Addr
  e : En
  p0 : Tok
  p1 : Tok
  p2 : Tok
  p3 : Tok
  o : Obj
  kvs : List (Int × Value)
  c : Obj
noncomputable abbrev SH.tup (a : SH) : Obj := { cls := .type "tuple", data := .seq #[.int a.e.c0 a.p0, .int a.e.c1 a.p1, .int a.e.c2 a.p2, .int a.e.s a.p3, .ref a.D] }
noncomputable abbrev SH.vals (a : SH) : List (Str × Option Value) := [(Str.ofString "mail", some (.str a.mail a.tm)), (Str.ofString "entry", some (.ref a.T)), (Str.ofString "row", a.row), (Str.ofString "part", a.part), (Str.ofString "left", a.left)]
local macro_rules | `(tactic| walk_at "storeName") => `(tactic| ((rename Fr _ _ _ _ => F9); (rename News _ _ _ _ => N9); (with_unfolding_all refine' storeX_C F9 N9 rfl (UpdF.tail (Ne.symm (by assumption)) (UpdF.tail (by assumption) (UpdF.tail (by assumption) (UpdF.head (by assumption))))) (by assumption) ?_); clear F9 N9; intro h' o' F' N' hd'; (try dsimp only)))
local macro_rules | `(tactic| walk_at "call ref") => `(tactic| (refine hold ?_))
local macro_rules | `(tactic| walk_at "call builtin:str.split") => `(tactic| (refine hold ?_))
local macro_rules | `(tactic| walk_at "eval Dict") => `(tactic| ((rename Fr _ _ _ (fun y => if y = _ then _ else _) => F9); (rename News _ _ _ _ => N9); k_dflt (refine kdn_eval (knd := PySem.intKind _ _) F9 N9 (TopRead.nolimit (by assumption)) rfl rfl (List.cons_ne_nil _ _) (by decide) ?_); clear F9 N9; intro d' h' o' F' N' l1 lo' hd'; (try k_lt l1)))
local macro_rules | `(tactic| walk_at "exec For Name Subscript cons nil") => `(tactic| (refine hold ?_))
local macro_rules | `(tactic| walk_at "subscriptTail") => `(tactic| ((with_reducible show wpAny _ _ (subscriptTail _ _ (Value.ref _) (Value.ref _)) _ _ _); refine hold ?_))
theorem DV.ints {kvs : List (Int × Value)} {d : List (Int × Int)} (h : DV kvs d) : ∀ p ∈ kvs, ∃ c t, p.2 = .int c t := by
  induction h with
  | nil => intro p hp; cases hp
  | cons h ih =>
    intro p hp
    rcases List.mem_cons.mp hp with rfl | hp
    · exact ⟨_, _, rfl⟩
    · exact ih p hp
theorem ne_objs {h₀ h : Heap} {L a b : Addr} {o1 o2 : Obj} {l : List (Addr × Obj)} (N : News h₀ L h l) (h1 : (a, o1) ∈ l) (h2 : (b, o2) ∈ l) (hne : o1 ≠ o2) : a ≠ b := fun e => by
  have q1 := (N _ h1).1
  have q2 := (N _ h2).1
  dsimp only at q1 q2
  rw [e, q2] at q1
  exact hne (Option.some.inj q1).symm
theorem butLast {l3 : List (Str × Tok)} {p : Str × Tok} : (slicePick (strValues (l3 ++ [p])).toArray none (some (-1)) none).toList = strValues l3 := by
  have := slicePick_butLast (strValues (l3 ++ [p])).toArray 1 (Nat.le_refl _)
  rw [show (-((1 : Nat) : Int)) = -1 from rfl] at this
  rw [this]
  simp [strValues]
theorem snoc_of {l2 : List (Str × Tok)} {rows : List Str} {e : Str} (h : l2.map (·.1) = rows ++ [e]) : ∃ l3 t, l2 = l3 ++ [(e, t)] ∧ l3.map (·.1) = rows := by
  obtain ⟨a, b, rfl, h1, h2⟩ := List.map_eq_append_iff.mp h
  obtain ⟨p, rfl, h3⟩ : ∃ p, b = [p] ∧ p.1 = e := by
    match b, h2 with
    | [p], h2 => exact ⟨p, rfl, by simpa using h2⟩
  exact ⟨a, p.2, by rw [← h3], h1⟩
theorem flat_size {α : Type} (k : Nat) (f : α → List Nat) : ∀ (l : List α), (∀ x ∈ l, (f x).length ≤ k) → (l.map f).flatten.length ≤ l.length * k
  | [], _ => by simp
  | x :: l, h => by
    have h1 := h x (List.mem_cons_self ..)
    have ih := flat_size k f l fun y hy => h y (List.mem_cons_of_mem _ hy)
    simp only [List.map_cons, List.flatten_cons, List.length_append, List.length_cons, Nat.succ_mul]
    omega
theorem mailT_size (ns : List Nat) (b : Str) (k : Nat) (h : ∀ n ∈ ns, n ≤ k) : (mailT ns b).cps.size ≤ ns.length * (k + b.length + 2) := by
  have := flat_size (k + b.length + 2) (fun n => List.replicate n 46 ++ b.cps.toList ++ [13, 10]) ns (fun n hn => by
    have := h n hn
    simp only [List.length_append, List.length_replicate, List.length_cons, List.length_nil, Array.length_toList, Str.length]; omega)
  simpa [mailT] using this
theorem mail0_size (ps : List (Nat × Str)) (b : Str) (k : Nat) (h : ∀ p ∈ ps, p.1 ≤ k ∧ EndOk p.2.cps.toList) : (mail0 ps b).cps.size ≤ ps.length * (k + b.length + 2) := by
  have := flat_size (k + b.length + 2) (fun p : Nat × Str => (List.replicate p.1 46 ++ b.cps.toList) ++ p.2.cps.toList) ps (fun p hp => by
    obtain ⟨h1, h2⟩ := h p hp
    have h3 : p.2.cps.toList.length ≤ 2 := by rcases h2 with e | e | e <;> rw [e] <;> decide
    simp only [List.length_append, List.length_replicate, Array.length_toList, Str.length] at h3 ⊢; omega)
  simpa [mail0] using this
section
variable {w : World} {mg mb : Str → Option Value} {dp un : Nat} {gd : Option (List Code)} {cn : Str} {cs : Scope} {a : Addr} {ccd : Value} {cl : List (Str × Addr)} {outer : List Env} {A₀ : Around} {base h₀ : Heap} {L : Addr} {m : Str → Option Value} {s : Shared} {Q E : Value → Shared → Prop} {news : List (Addr × Obj)}
theorem heard_ct {ps : List (Nat × Str)} {b : Str} {t1 t2 : Tok} (B : Below A₀ base outer h₀) (F : Fr h₀ L s.heap m) (N : News h₀ L s.heap news) (T : TopRead hd.view_39 (looseW hd.view_39 [Str.ofString "_twin_re_1", Str.ofString "_twin_re_2"]) mg mb h₀)
    (hk : cs.kind = .function) (hdp : dp + 15 < recursionLimit) (hun : un + 600 < cLine) (hG : AllBare s.gens)
    (h46 : 46 ∉ b.cps.toList) (h10 : 10 ∉ b.cps.toList) (h13 : 13 ∉ b.cps.toList) (hb1 : 1 ≤ b.length) (hb2 : b.length ≤ 200) (hps : ps.length ≤ 7) (hn : ∀ p ∈ ps, 1 ≤ p.1 ∧ EndOk p.2.cps.toList) (hn7 : ∀ p ∈ ps, p.1 ≤ 7)
    (hret : ∀ T' D o kvs p0 p1 p2 p3 (s' : Shared), s'.os = s.os → AllBare s'.gens → Fr h₀ L s'.heap m → News h₀ L s'.heap ((T', ({ cls := .type "tuple", data := .seq #[.int (heardS (ps.map (·.1))).c0 p0, .int (heardS (ps.map (·.1))).c1 p1, .int (heardS (ps.map (·.1))).c2 p2, .int (heardS (ps.map (·.1))).s p3, .ref D] } : Obj)) :: (D, o) :: news) → (D == sysModules) = false → o.IsDictOf (PySem.intKind Challenge.rw_pg0093_01.row.prog w) kvs → DV kvs (heardS (ps.map (·.1))).d → Q (.ref T') s') :
    (hd.heap_39 w.params).In h₀ → wpAny (model Challenge.rw_pg0093_01.row.prog w) (ktrTop dp un gd cn cs L a ccd cl outer) (call (.ref 91) [.str (mail0 ps b) t1, .str b t2]) Q E s := by
  k_fill
  intro X
  refine wpAny_call ?_
  k_dflt (walk_at "cell_enterC")
  k_steps
  rename_i g7 L7 _ _ FG7 B7 X7 T7 hlN c7 dc7 D7 _ o7 lod _ _ hdi _ hl1 T8 _ hl2 _ F7 N7
  have offC0 : Off (L7 + 1) news := fun p hp => Nat.ne_of_lt (Nat.lt_succ_of_lt (hlN p hp))
  with_unfolding_all (refine' For_G ?_)
  k_steps
  rename Fr _ _ _ (fun y => if y = _ then _ else _) => F9
  rename News _ _ _ _ => N9
  rename IsRange _ _ _ _ _ _ _ _ => hr
  refine range_updG (σ := SH) SH.vals (fun a => (a.T, a.tup) :: (a.D, a.o) :: (L7 + 1, a.c) :: news)
    (fun i a => (∃ v, a.c.data = .cell v) ∧ (a.T ≠ L7 + 1 ∧ a.D ≠ L7 + 1) ∧ (a.o.IsDictOf (PySem.intKind Challenge.rw_pg0093_01.row.prog w) a.kvs ∧ (a.D == sysModules) = false) ∧ (DV a.kvs a.e.d ∧ a.kvs.length ≤ 7 * i) ∧ a.e = ((List.range i).map (· + 1)).foldl (hearTurn (ps.map (·.1))) ⟨0, 0, 0, 0, []⟩ ∧ a.mail = if i = 0 then mail0 ps b else mailT ((ps.map (·.1)).map (· + i)) b)
    ⟨mail0 ps b, t1, none, none, none, T8, D7, ⟨0, 0, 0, 0, []⟩, _, _, _, _, o7, [], c7⟩ (n := 3) rfl F9 N9 hG hr (by decide +kernel) (by decide +kernel) ⟨rfl, rfl, rfl, rfl, rfl, trivial⟩ rfl ⟨⟨_, dc7⟩, ⟨Nat.ne_of_gt hl2.2.1, Nat.ne_of_gt hl1.1⟩, ⟨hdi, lod⟩, ⟨.nil, Nat.le_refl _⟩, rfl, rfl⟩ ?_ ?_
  · intro I i ti a s₁ oI hi hI e1 G1 hoff hcI F' N'
    obtain ⟨mail, tm, row, part, left, T9, D9, e, p0, p1, p2, p3, o, kvs, c⟩ := a
    obtain ⟨⟨cv, hcv⟩, ⟨hT, hD⟩, ⟨hdo, loD⟩, ⟨hdv, hkl⟩, he, hmail⟩ := hI
    dsimp only [SH.vals, SH.tup] at hcv hT hD hdo loD hdv hkl he hmail hoff F' N' ⊢
    k_fold
    have hIC : L7 + 1 ≠ I := hoff (L7 + 1, c) (.tail _ (.tail _ (.head _)))
    k_steps
    refine unhold ?_
    rename Fr _ _ _ (upd _ _) => F8
    rename News _ _ _ _ => N8
    rename Obj => c8
    rename c8.data = _ => hc8
    have hsize : mail.cps.size ≤ 10000 := by
      rw [hmail]
      by_cases h0 : i = 0
      · rw [if_pos h0]
        have := mail0_size ps b 7 (fun p hp => ⟨hn7 p hp, (hn p hp).2⟩)
        have h2 := Nat.mul_le_mul_right (7 + b.length + 2) hps
        omega
      · rw [if_neg h0]
        have := mailT_size ((ps.map (·.1)).map (· + i)) b 10 (fun n h => by
          obtain ⟨k, hk, rfl⟩ := List.mem_map.mp h
          obtain ⟨p, hp, rfl⟩ := List.mem_map.mp hk
          have := hn7 p hp
          omega)
        simp only [List.length_map] at this
        have h2 := Nat.mul_le_mul_right (10 + b.length + 2) hps
        omega
    have hq : dotsT (crlfT mail) = mailT ((ps.map (·.1)).map (· + (i + 1))) b := by
      rw [hmail]
      by_cases h0 : i = 0
      · subst h0
        rw [if_pos rfl, quote_first ps b h10 h13 hn]
        simp [List.map_map, Function.comp_def]
      · rw [if_neg h0, quote_next _ b h10 h13 (fun n h => by
          obtain ⟨k, hk, rfl⟩ := List.mem_map.mp h
          omega)]
        simp [List.map_map, Function.comp_def, Nat.add_assoc]
    with_unfolding_all refine' quote_ct w mg mb mail tm _ _ _ _ _ _ _ _ _ _ _ _ _ _ _ _ _ _ B7 F8 X7 N8 T7 rfl hsize ?hdd ?huu ?_
    case hdd => (dsimp only [ktrTop]; omega)
    case huu => (dsimp only [ktrTop]; omega)
    intro tq hq1 tkq F10 N10
    clear F8 N8
    dsimp only
    rw [hq]
    k_steps
    refine unhold ?_
    with_unfolding_all (refine' For_G ?_)
    k_steps
    refine unhold ?_
    rename Fr _ _ _ (fun y => if y = _ then _ else _) => F8
    rename News _ _ _ _ => N8
    refine split_led F8 N8 (by decide +kernel) (split_mail _ _ h13) ?hz ?_
    case hz =>
      have := mailT_size ((ps.map (·.1)).map (· + (i + 1))) b 10 (fun n h => by
        obtain ⟨k, hk, rfl⟩ := List.mem_map.mp h
        obtain ⟨p, hp, rfl⟩ := List.mem_map.mp hk
        have := hn7 p hp
        omega)
      simp only [List.length_map] at this
      have h2 := Nat.mul_le_mul_right (10 + b.length + 2) hps
      have h3 : (mailT ((ps.map (·.1)).map (· + (i + 1))) b).length = (mailT ((ps.map (·.1)).map (· + (i + 1))) b).cps.size := rfl
      omega
    intro D2 l2 h2 k2 el2 sa2 _ hil2 oD2 F11 N11
    clear F8 N8
    dsimp only
    k_steps
    refine unhold ?_
    obtain ⟨l3, te, rfl, el3⟩ := snoc_of el2
    have hl3 : l3.length = ps.length := by have := congrArg List.length el3; simpa using this
    refine kba_turn (value' := .Name (Str.ofString "x") ⟨0, 0, 0, 0⟩) (fun _ => rfl) ?_
    with_unfolding_all refine' kmk_slice_lit (zs := strValues l3) F11 N11 hil2 .none (.int _ _) butLast ?_ rfl (fun _ => rfl) ?hz2
    case hz2 => (rw [sizeLine_eq]; simp only [strValues, List.size_toArray, List.length_map, List.length_append, List.length_cons, List.length_nil]; omega)
    intro D3 h3 F12 N12 hlt12
    have N13 := nc N12 (.head _) (nd (nd N12))
    clear N12 N11 F11
    k_steps
    rename Fr _ _ _ (fun y => if y = _ then _ else _) => F14
    refine list_updG (σ := SH) SH.vals (fun a => (D3, listObj (strValues l3) 0) :: (I, oI) :: (a.T, a.tup) :: (a.D, a.o) :: (L7 + 1, a.c) :: news)
      (fun j a => (a.mail = mailT ((ps.map (·.1)).map (· + (i + 1))) b ∧ a.c = c8) ∧ ((a.T ≠ L7 + 1 ∧ a.D ≠ L7 + 1) ∧ a.T ≠ I ∧ a.D ≠ I) ∧ (a.o.IsDictOf (PySem.intKind Challenge.rw_pg0093_01.row.prog w) a.kvs ∧ (a.D == sysModules) = false) ∧ (DV a.kvs a.e.d ∧ a.kvs.length ≤ 7 * i + j) ∧ a.e = ((ps.map (·.1)).take j).foldl (hearRow (i + 1)) e)
      ⟨mailT ((ps.map (·.1)).map (· + (i + 1))) b, tq, row, part, left, T9, D9, e, p0, p1, p2, p3, o, kvs, c8⟩ rfl F14 N13 G1 (.head _) ⟨rfl, rfl, rfl, rfl, rfl, trivial⟩ rfl ⟨⟨rfl, rfl⟩, ⟨⟨hT, hD⟩, hoff (T9, _) (.head _), hoff (D9, o) (.tail _ (.head _))⟩, ⟨hdo, loD⟩, ⟨hdv, hkl⟩, rfl⟩ (fun _ _ _ => .head _) ?_ ?_
    · intro I2 j v a s₂ oI2 hv hInv e2 G2 hoff2 hcI2 F' N'
      obtain ⟨mail', tm', row', part', left', T9', D9', e', q0, q1, q2, q3, o', kvs', c'⟩ := a
      obtain ⟨⟨hm1, hc1⟩, ⟨⟨hT', hD'⟩, hTI, hDI⟩, ⟨hdo', loD'⟩, ⟨hdv', hkl'⟩, he'⟩ := hInv
      dsimp only [SH.vals, SH.tup] at hm1 hc1 hT' hD' hTI hDI hdo' loD' hdv' hkl' he' hoff2 F' N' ⊢
      subst hm1 hc1
      k_fold
      obtain ⟨n, tr, hnj, rfl⟩ : ∃ n t, (ps.map (·.1))[j]? = some n ∧ v = .str (rowT (n + (i + 1)) b) t := by
        rw [strValues, List.getElem?_map] at hv
        obtain ⟨p, hp, rfl⟩ := Option.map_eq_some_iff.mp hv
        have h1 := congrArg (fun l => l[j]?) el3
        simp only [List.getElem?_map, hp, Option.map_some] at h1
        cases hq : ps[j]? with
        | none => rw [hq] at h1; simp at h1
        | some q =>
          rw [hq] at h1
          simp only [Option.map_some, Option.some.injEq] at h1
          exact ⟨q.1, p.2, by rw [List.getElem?_map, hq]; rfl, by rw [h1]⟩
      have hn1 : 1 ≤ n ∧ n ≤ 7 := by
        obtain ⟨p, hp, rfl⟩ := List.mem_map.mp (List.mem_of_getElem? hnj)
        exact ⟨(hn p hp).1, hn7 p hp⟩
      k_steps
      refine unhold ?_
      rename Fr _ _ _ (fun y => if y = _ then _ else _) => F15
      rename News _ _ _ _ => N15
      with_unfolding_all refine' ell_ct w mg mb (n + (i + 1)) b _ _ _ h46 (by omega) (by omega) hb1 _ _ _ _ _ _ _ _ _ _ _ _ _ _ _ _ _ B7 F15 X7 N15 T7 rfl trivial ?hdd ?huu ?_
      case hdd => (dsimp only [ktrTop]; omega)
      case huu => (dsimp only [ktrTop]; omega)
      intro _ h16 tk16 F16 N16
      clear F15 N15
      dsimp only
      by_cases hmt : (n + (i + 1)) % 3 = 0
      · have hmt' : ((n + (i + 1)) % 3 == 0) = true := by simpa using hmt
        rw [hmt']
        have hlr : (rowT (n + (i + 1)) b).length ≤ 1000 := by rw [rowT_length]; omega
        have hlb : b.length ≤ 1000 := by omega
        have hlr2 : ((rowT (n + (i + 1)) b).length : Int) = n + (i + 1) + b.length := by rw [rowT_length]; omega
        k_steps
        refine unhold ?_
        rename Fr _ _ _ (fun z => if z = _ then _ else _) => F17
        rename News _ _ _ _ => N17
        rename Obj.IsDictOf _ _ (intKeyPairs _) => hd17
        rename (_ == sysModules) = false => lo17
        have hj7 : j < 7 := by
          rcases Nat.lt_or_ge j (ps.map (·.1)).length with h | h
          · simp only [List.length_map] at h; omega
          · rw [List.getElem?_eq_none h] at hnj; cases hnj
        have hkey : ((rowT (n + (i + 1)) b).length : Int) - b.length - (1 + (i : Int)) = (n : Int) := by omega
        have N18 := nc N17 (.tail _ (.tail _ (.tail _ (.tail _ (.tail _ (.tail _ (.tail _ (.head _)))))))) (nc N17 (.tail _ (.head _)) (nc N17 (.tail _ (.tail _ (.tail _ (.tail _ (.tail _ (.tail _ (.head _))))))) (nc N17 (.head _) (nc N17 (.tail _ (.tail _ (.tail _ (.head _)))) (nc N17 (.tail _ (.tail _ (.tail _ (.tail _ (.head _))))) (nc N17 (.tail _ (.tail _ (.tail _ (.tail _ (.tail _ (.head _)))))) (nd (nd (nd (nd (nd (nd (nd (nd N17))))))))))))))
        with_unfolding_all refine' afs_ct (kt := kvs') B7 F17 N18 T7 rfl ?hdd ?huu hdo' hd17 loD' lo17 (by omega) hdv'.ints ?_ X7
        case hdd => (dsimp only [ktrTop]; omega)
        case huu => (dsimp only [ktrTop]; omega)
        intro T' D' o'' v u0 u1 u2 u3 h19 tk19 F19 N19 loD'' hdo'' hv''
        clear F17 N17 N18
        dsimp only
        k_steps
        rename Fr _ _ _ (fun y => if y = _ then _ else _) => F21
        rename News _ _ _ _ => N21
        have N22 := nc N21 (.tail _ (.tail _ (.tail _ (.tail _ (.head _))))) (nc N21 (.tail _ (.tail _ (.tail _ (.tail _ (.tail _ (.head _)))))) (nc N21 (.tail _ (.tail _ (.tail _ (.tail _ (.tail _ (.tail _ (.head _))))))) (nc N21 (.head _) (nc N21 (.tail _ (.head _)) (nd (nd (nd (nd (nd (nd (nd N21)))))))))))
        have hnd : (kvs'.map (·.1)).Nodup := by obtain ⟨_, _, _, _, _, _, h5⟩ := hdo'; exact h5
        rw [hkey] at hdo'' hv''
        refine UpdPostG.fin ⟨_, _, _, _, _, T', D', ⟨_, _, _, _, addD e'.d n⟩, u0, u1, u2, u3, o'', stored kvs' n v, _⟩ G2 rfl F21 ⟨rfl, rfl, rfl, rfl, rfl, trivial⟩ (fun z hz => ?_) N22 ?_ ⟨⟨rfl, rfl⟩, ?_, ⟨hdo'', loD''⟩, ⟨hdv'.stored hnd hv'', ?_⟩, ?_⟩
        · have z1 := hz _ (.head _)
          have z2 := hz _ (.tail _ (.head _))
          have z3 := hz _ (.tail _ (.tail _ (.head _)))
          have z4 := hz _ (.tail _ (.tail _ (.tail _ (.head _))))
          have z5 := hz _ (.tail _ (.tail _ (.tail _ (.tail _ (.head _)))))
          simp only [upd, if_neg z1, if_neg z2, if_neg z3, if_neg z4, if_neg z5]
        · exact off_cons (hoff2 (D3, _) (.head _)) (off_cons (hoff2 (I, oI) (.tail _ (.head _))) (off_cons (ne_objs N21 (.head _) (.tail _ (.tail _ (.tail _ (.tail _ (.head _))))) (fun q => by have := congrArg Obj.cls q; rw [hcI2] at this; dsimp only at this; exact absurd this (by decide))) (off_cons (ne_objs N21 (.tail _ (.head _)) (.tail _ (.tail _ (.tail _ (.tail _ (.head _))))) (fun q => by have := congrArg Obj.cls q; rw [hcI2, hdo''.choose_spec.choose_spec.1.1] at this; exact absurd this (by decide))) fun p hp => hoff2 p (.tail _ (.tail _ (.tail _ (.tail _ hp)))))))
        · obtain ⟨es0, ep0, hq0, hq1, _⟩ := hdo''
          have k1 : T' ≠ L7 + 1 := ne_objs N21 (.head _) (.tail _ (.tail _ (.tail _ (.tail _ (.tail _ (.tail _ (.tail _ (.head _)))))))) (fun q => by have := congrArg Obj.data q; rw [hc8] at this; cases this)
          have k2 : D' ≠ L7 + 1 := ne_objs N21 (.tail _ (.head _)) (.tail _ (.tail _ (.tail _ (.tail _ (.tail _ (.tail _ (.tail _ (.head _)))))))) (fun q => by have := congrArg Obj.data q; rw [hc8, hq1] at this; cases this)
          have k3 : T' ≠ I := ne_objs N21 (.head _) (.tail _ (.tail _ (.tail _ (.tail _ (.tail _ (.tail _ (.head _))))))) (fun q => by have := congrArg Obj.cls q; rw [hcI] at this; dsimp only at this; exact absurd this (by decide))
          have k4 : D' ≠ I := ne_objs N21 (.tail _ (.head _)) (.tail _ (.tail _ (.tail _ (.tail _ (.tail _ (.tail _ (.head _))))))) (fun q => by have := congrArg Obj.cls q; rw [hcI, hq0.1] at this; exact absurd this (by decide))
          exact ⟨⟨k1, k2⟩, k3, k4⟩
        · exact Nat.le_trans (stored_length_le _ _ _) (Nat.succ_le_succ hkl')
        · rw [List.take_add_one, hnj, Option.toList_some, List.foldl_append, ← he']
          simp only [List.foldl_cons, List.foldl_nil, hearRow, if_pos hmt]
          have i0 : (1 + (i : Int) = 3 - (0 + 0)) ↔ (i + 1 = 3) := by omega
          have i1 : (1 + (i : Int) = 3 - (0 + 1)) ↔ (i + 1 = 2) := by omega
          have i2 : (1 + (i : Int) = 3 - (0 + 2)) ↔ (i + 1 = 1) := by omega
          rw [hkey]
          simp only [i0, i1, i2]
      · have hmt' : ((n + (i + 1)) % 3 == 0) = false := by simpa using hmt
        rw [hmt']
        k_steps
        rename Fr _ _ _ (fun y => if y = _ then _ else _) => F17
        rename News _ _ _ _ => N17
        refine UpdPostG.fin ⟨_, _, _, _, _, _, _, e', _, _, _, _, _, kvs', _⟩ G2 rfl F17 ⟨rfl, rfl, rfl, rfl, rfl, trivial⟩ (fun z hz => ?_) N17 hoff2 ⟨⟨rfl, rfl⟩, ⟨⟨hT', hD'⟩, hTI, hDI⟩, ⟨hdo', loD'⟩, ⟨hdv', Nat.le_succ_of_le hkl'⟩, ?_⟩
        · have z1 := hz _ (.head _)
          have z2 := hz _ (.tail _ (.head _))
          have z3 := hz _ (.tail _ (.tail _ (.head _)))
          have z4 := hz _ (.tail _ (.tail _ (.tail _ (.head _))))
          have z5 := hz _ (.tail _ (.tail _ (.tail _ (.tail _ (.head _)))))
          simp only [upd, if_neg z1, if_neg z2, if_neg z3, if_neg z4, if_neg z5]
        · rw [List.take_add_one, hnj, List.foldl_append, ← he']
          simp [hearRow, hmt]
    · intro a s' hInv e2 G2 F' N'
      obtain ⟨mail', tm', row', part', left', T9', D9', e', q0, q1, q2, q3, o', kvs', c'⟩ := a
      obtain ⟨⟨hm1, hc1⟩, ⟨⟨hT', hD'⟩, hTI, hDI⟩, ⟨hdo', loD'⟩, ⟨hdv', hkl'⟩, he'⟩ := hInv
      dsimp only [SH.vals, SH.tup] at hm1 hc1 hT' hD' hTI hDI hdo' loD' hdv' hkl' he' F' N' ⊢
      subst hm1 hc1
      k_steps
      have hlen3 : (strValues l3).length = ps.length := by simp only [strValues, List.length_map]; exact hl3
      rw [hlen3] at hkl' he'
      refine UpdPostG.fin ⟨mailT ((ps.map (·.1)).map (· + (i + 1))) b, tm', row', part', left', T9', D9', e', q0, q1, q2, q3, o', kvs', _⟩ G2 e2 F' ⟨rfl, rfl, rfl, rfl, rfl, trivial⟩ (fun z hz => ?_) (nd N') (off_cons hTI (off_cons hDI (off_cons hIC (fun p hp => hoff p (.tail _ (.tail _ (.tail _ hp))))))) ⟨⟨_, hc8⟩, ⟨hT', hD'⟩, ⟨hdo', loD'⟩, ⟨hdv', Nat.le_trans hkl' (by omega)⟩, ?_, ?_⟩
      · have z1 := hz _ (.head _)
        have z2 := hz _ (.tail _ (.head _))
        have z3 := hz _ (.tail _ (.tail _ (.head _)))
        have z4 := hz _ (.tail _ (.tail _ (.tail _ (.head _))))
        have z5 := hz _ (.tail _ (.tail _ (.tail _ (.tail _ (.head _)))))
        simp only [upd, if_neg z1, if_neg z2, if_neg z3, if_neg z4, if_neg z5]
      · rw [List.range_succ, List.map_append, List.foldl_append, ← he, he', List.take_of_length_le (by simp)]
        rfl
      · rw [if_neg (Nat.succ_ne_zero _)]
  · intro a s' hInv e2 G2 F' N'
    obtain ⟨mail', tm', row', part', left', T9', D9', e', q0, q1, q2, q3, o', kvs', c'⟩ := a
    obtain ⟨⟨cv, hcv⟩, ⟨hT, hD⟩, ⟨hdo, loD⟩, ⟨hdv, hkl⟩, he, hmail⟩ := hInv
    dsimp only [SH.vals, SH.tup] at hcv hT hD hdo loD hdv hkl he hmail F' N' ⊢
    k_steps
    rename News _ _ _ _ => N7
    have he3 : e' = heardS (ps.map (·.1)) := he
    subst he3
    exact hret T9' D9' o' kvs' q0 q1 q2 q3 s' e2 G2 (by assumption) (nc N7 (.head _) (nc N7 (.tail _ (.head _)) (nd (nd (nd N7))))) loD hdo hdv
end
end Mine
end
-- U0
section
open PySem PySem.W PySem.Calls PyProof.Rows
set_option maxRecDepth 100000
namespace Mine
open LCg
section
variable {prog : Program} {w : World} {A : Around} {E : Value → Shared → Prop} {s : Shared} {h₀ : Heap} {L : Addr} {m : Str → Option Value} {env : Env}
noncomputable def Off4 (I C K D : Addr) (l : List (Addr × Obj)) : Prop := ∀ p ∈ l, p.1 ≠ I ∧ p.1 ≠ C ∧ p.1 ≠ K ∧ p.1 ≠ D
noncomputable def CCPost {σ : Type} (nOf : σ → List (Addr × Obj)) (yOf : σ → List Value) (Inv : σ → Prop) (h₀ : Heap) (L : Addr) (m : Str → Option Value) (s₁ : Shared) (I : Addr) (oI : Obj) (C : Addr) (oC : Obj) (K : Addr) (oK : Obj) (D : Addr) (ys : List Value) (y : Value) (s₂ : Shared) : Prop :=
  ∃ h' tk a, s₂ = { s₁ with heap := h', toks := tk } ∧ Fr h₀ L h' m ∧ News h₀ L h' ((I, oI) :: (C, oC) :: (K, oK) :: (D, lst ys) :: nOf a) ∧ Off4 I C K D (nOf a) ∧ yOf a = ys ++ [y] ∧ Inv a
noncomputable abbrev cell0 : Obj := { cls := .type "cell", data := .cell none }
theorem newEnv_cell {scope : Scope} {globals : Addr} {cl : List (Str × Addr)} {qual : Str} {x : Str} {Q : Env → Shared → Prop}
    (hcf : ∀ b cl, cellsFrom b scope.names cl = (x, b) :: cl) (hpc : ∀ h, pushCells h scope.names = h.push cell0)
    (h : ∀ h₁, h₁.Ns s.heap.objs.size (fun _ => none) → h₁.get? (s.heap.objs.size + 1) = some cell0 → (∀ b o, s.heap.get? b = some o → h₁.get? b = some o) → Q (newEnv scope s.heap.objs.size globals ((x, s.heap.objs.size + 1) :: cl) qual none .none (some env) builtinsNs) { s with heap := h₁ }) :
    wpAny (model prog w) A (newFunctionEnv scope globals cl [] qual none .none (some env)) Q E s := by
  simp only [newFunctionEnv, Option.isSome_some, if_true]
  refine wpAny_bind (wpAny_alloc ?_)
  refine wpAny_bind (wpAny_layCells _ (fun name kind cells => by cases kind == NameKind.cell <;> simp) _ _ _ _ ?_)
  rw [hcf]
  dsimp only
  rw [hpc, Heap.size_push]
  refine wpAny_bind ?_
  rw [List.forIn_nil]
  refine wpAny_pure (wpAny_pure ?_)
  refine h _ ((Heap.Ns.new s.heap (.type "dict")).keeps fun b o e => Heap.get?_push_of_some _ e) ?_ fun b o e => Heap.get?_push_of_some _ (Heap.get?_push_of_some _ e)
  have := Heap.get?_push_size (s.heap.push { cls := .type "dict", data := .dict #[] }) (o := cell0) rfl
  rw [Heap.size_push] at this
  exact this
noncomputable def CellSrc (prog : Program) (w : World) (A : Around) (h₀ : Heap) (m : Str → Option Value) (env : Env) {σ : Type} (nOf : σ → List (Addr × Obj)) (yOf : σ → List Value) (Inv : Nat → σ → Prop) (a₀ : σ) (elt : Expr) (x y : Str) (scope : Scope) (cl : List (Str × Addr)) (n : Nat) (Q : Flow → Shared → Prop) (xv : Value) (s₁ : Shared) : Prop :=
  ∃ r lo b t u v, xv = .ref r ∧ IsRange s₁.heap r lo b 1 t u v ∧ Builtin.Range.small lo b 1 = true ∧ Builtin.Range.rangeSize lo b 1 = ((n : Nat) : Int) ∧ n ≤ 1000 ∧ Fr h₀ env.locals s₁.heap m ∧ News h₀ env.locals s₁.heap (nOf a₀) ∧ yOf a₀ = [] ∧ Inv 0 a₀ ∧
      (∀ i t a I oI C oC K oK D g tk (E' : Value → Shared → Prop), i < n → Inv i a → oK.data = .cell (some (.int (lo + (i : Int)) t)) → Fr h₀ env.locals g m → News h₀ env.locals g ((I, oI) :: (C, oC) :: (K, oK) :: (D, lst (yOf a)) :: nOf a) → Off4 I C K D (nOf a) → ((@Ne Nat I C) ∧ (@Ne Nat I K) ∧ (@Ne Nat I D) ∧ (@Ne Nat C K) ∧ (@Ne Nat C D) ∧ (@Ne Nat K D)) →
        wpAny (model prog w) A (eval elt (compEnvC scope ((x, K) :: cl) C env)) (CCPost nOf yOf (Inv (i + 1)) h₀ env.locals m { s₁ with heap := g, toks := tk } I oI C oC K oK D (yOf a)) E' { s₁ with heap := g, toks := tk }) ∧
      (∀ a D g tk, Inv n a → Fr h₀ env.locals g (fun z => if z = y then some (.ref D) else m z) → News h₀ env.locals g ((D, lst (yOf a)) :: nOf a) → Off D (nOf a) → Q .next { s₁ with heap := g, toks := tk })
theorem Assign_comp_cell {σ : Type} (nOf : σ → List (Addr × Obj)) (yOf : σ → List Value) (Inv : Nat → σ → Prop) (a₀ : σ) {elt iter : Expr} {x y : Str} {px py : Pos} {scope : Scope} {cl : List (Str × Addr)} {pos spos : Pos} {Q : Flow → Shared → Prop} (n : Nat)
    (_F₀ : Fr h₀ L s.heap m) (hLe : env.locals = L) (hh : A.handled = none)
    (hsw : swapsWith (.ListComp elt [⟨.Name x px, iter, [], 0⟩] scope pos) (some (.Name y py)) spos.line env = pure true)
    (hclos : closureFor scope env = pure cl) (hcf : ∀ b cl, cellsFrom b scope.names cl = (x, b) :: cl) (hpc : ∀ h, pushCells h scope.names = h.push cell0) (hkind : scope.kind = .function)
    (hnames : ∀ z ∈ scope.names, z.2 = .local → scope.names.lookup z.1 = some .local) (hx : (relabel scope env).names.lookup x = some .cell)
    (hy : env.kindOf y = some .local) (hp : (env.scope.kind == .class || (env.scope.kind == .module && env.locals != env.globals)) = false)
    (h : wpAny (model prog w) A (eval iter env) (CellSrc prog w A h₀ m env nOf yOf Inv a₀ elt x y scope cl n Q) E s)
    (hs : ∀ x, foldedSetIterable iter env x = pure x := by intro _; rfl) :
    wpAny (model prog w) A (exec (.Assign [.Name y py] (.ListComp elt [⟨.Name x px, iter, [], 0⟩] scope pos) spos) env) Q E s := by
  subst hLe
  rw [exec_Assign_Name_used _ _ _ _ hsw]
  refine wpAny_bind (wpAny_standAt (wpAny_bind ?_))
  show wpAny _ A (do let _ ← comprehension (.ListComp elt [⟨.Name x px, iter, [], 0⟩] scope pos) scope env _ (newList []) false (eval iter env) (some (assign (.Name y py) env))) _ _ s
  refine wpAny_bind (wpAny_mono (wpAny_comprehension_free (use := some (assign (.Name y py) env)) (Q := fun _ s' => Q .next s') rfl hs hclos hkind hnames
    (wpAny_mono h (fun xv s₁ h₁ => ?_) fun _ _ e => e)) (fun _ s' hq => wpAny_pure (wpAny_pure hq)) fun _ _ e => e)
  obtain ⟨r, lo, b, t, u, v, rfl, hr, hsm, hn, hn1000, F, N, hy0, hI0, turn, done⟩ := h₁
  refine wpAny_pyIter_range hr hsm ?_
  rw [hn]
  obtain ⟨H0, gens, drawn, toks, os⟩ := s₁
  dsimp only at hr F N turn done ⊢
  generalize eOI : ({ cls := .type "range_iterator", data := .fields #[rawInt lo, rawInt (n : Int), rawInt 1] } : Obj) = oI0
  generalize eH1 : H0.push oI0 = H1
  refine wpAny_newObj_type ?_
  dsimp only
  generalize eH2 : H1.push { cls := .type "list", dict := none, data := .seq ([] : List Value).toArray } = H2
  refine newEnv_cell hcf hpc fun h₁ hC1 hK1 old1 => ?_
  dsimp only at hC1 hK1 old1 ⊢
  have s1 : H1.objs.size = H0.objs.size + 1 := by rw [← eH1, Heap.size_push]
  have s2 : H2.objs.size = H0.objs.size + 2 := by rw [← eH2, Heap.size_push, s1]
  generalize eI : H0.objs.size = I at s1 s2
  rw [s2] at hC1 hK1 ⊢
  rw [s1]
  have old : ∀ b o, H0.get? b = some o → h₁.get? b = some o := fun b o e => old1 b o (eH2 ▸ Heap.get?_push_of_some _ (eH1 ▸ Heap.get?_push_of_some _ e))
  have gI : h₁.get? I = some oI0 := old1 _ _ (eH2 ▸ Heap.get?_push_of_some _ (by rw [← eH1, ← eI]; exact Heap.get?_push_size _ (by rw [← eOI]; rfl)))
  have gD : h₁.get? (I + 1) = some (lst []) := old1 _ _ (by rw [← eH2, ← s1]; exact Heap.get?_push_size _ rfl)
  obtain ⟨oC0, gC, nC⟩ := ns_obj hC1
  have lt0 : ∀ b o, H0.get? b = some o → b < I := fun b o e => eI ▸ Heap.lt_size e
  have new0 : ∀ a, I ≤ a → a ≠ env.locals ∧ h₀.get? a = none := fun a ha => by
    refine ⟨fun e => ?_, ?_⟩
    · have := F.ns.lt
      rw [eI] at this
      subst e
      exact Nat.lt_irrefl _ (Nat.lt_of_lt_of_le this ha)
    · cases e : h₀.get? a with
      | none => rfl
      | some o => exact absurd (lt0 _ _ (F.keep _ _ e)) (Nat.not_lt.mpr ha)
  have hkd : (relabel scope env).kind = .function := hkind
  have nI := new0 I (Nat.le_refl _)
  have nD := new0 (I + 1) (Nat.le_add_right _ _)
  have nC' := new0 (I + 2) (Nat.le_add_right _ _)
  have nK := new0 (I + 2 + 1) (by omega)
  have d02 : @Ne Nat I (I + 2) := by omega
  have d03 : @Ne Nat I (I + 2 + 1) := by omega
  have d01 : @Ne Nat I (I + 1) := by omega
  have d23 : @Ne Nat (I + 2) (I + 2 + 1) := by omega
  have d21 : @Ne Nat (I + 2) (I + 1) := by omega
  have d31 : @Ne Nat (I + 2 + 1) (I + 1) := by omega
  have kcl : List.lookup x ((x, I + 2 + 1) :: cl) = some (I + 2 + 1) := by simp
  have W := range_walks (prog := prog) (w := w) (I := I) hh lo n
  have loop : ∀ s₃ : Shared, s₃ = { heap := h₁, gens := gens, drawn := drawn, toks := toks, os := os } →
      codeAny (model prog w) A (.compLoop (.ListComp elt [⟨.Name x px, iter, [], 0⟩] scope pos) 0 (.ref I) (.ref (I + 1)) (compEnvC scope ((x, I + 2 + 1) :: cl) (I + 2) env))
        (compPost (model prog w) A E (some (assign (.Name y py) env)) (fun _ s' => Q .next s') (.ref (I + 1)) (I + 2)) s₃ := by
    rintro s₃ rfl
    refine codeAny_compLoop_tests
      (fun k s' => ∃ h' tk i a oC oK mC cv, s' = { heap := h', gens := gens, drawn := drawn, toks := tk, os := os } ∧ i ≤ n ∧ k = n + 1 - i ∧ (yOf a).length = i ∧ IsRangeIter h' I (lo + (i : Nat) * 1) ((n : Int) - (i : Nat)) 1 ∧ Fr h₀ env.locals h' m ∧
        News h₀ env.locals h' ((I + 2, oC) :: (I + 2 + 1, oK) :: (I + 1, lst (yOf a)) :: nOf a) ∧ NsObj oC mC ∧ oK.data = .cell cv ∧ Off4 I (I + 2) (I + 2 + 1) (I + 1) (nOf a) ∧ Inv i a) ?_ (n + 1)
      ⟨h₁, _, 0, a₀, oC0, cell0, _, none, rfl, Nat.zero_le _, rfl, by rw [hy0]; rfl, ?_, F.keeps old, ?_, nC, rfl, ?_, hI0⟩
    · rintro k s' ⟨h', tk, i, a, oC, oK, mC, cv, rfl, hi, rfl, hyl, hst, F', N', hnC, hcv, off', hI'⟩
      by_cases hlt : i < n
      · refine W.item i _ _ _ hlt hst fun v' h₂ tk₂ hPv hst₂ hk₂ => ?_
        obtain ⟨t', rfl⟩ := hPv
        have zC := N' (I + 2, oC) (.head _)
        have zK := N' (I + 2 + 1, oK) (.tail _ (.head _))
        have zD := N' (I + 1, lst (yOf a)) (.tail _ (.tail _ (.head _)))
        have up2 : ∀ b o, b ≠ I → h'.get? b = some o → h₂.get? b = some o := fun b o hb e => hk₂ b o (by simpa using hb) e
        refine wpAny_assign_Name (wpAny_storeName_cell (v₀ := cv) hkd hx kcl ⟨oK, up2 _ _ (by first | exact d02 | exact d03 | exact d01 | exact d23 | exact d21 | exact d31 | exact d02.symm | exact d03.symm | exact d01.symm | exact d23.symm | exact d21.symm | exact d31.symm) zK.1, hcv⟩ (fun h₃ hc₃ hs₃ => ?_))
        refine wpAny_tests_nil ?_
        simp only [if_true]
        obtain ⟨oK', gK', dK'⟩ := hc₃
        have up3 : ∀ b o, b ≠ I → b ≠ I + 2 + 1 → h'.get? b = some o → h₃.get? b = some o := fun b o h1 h2 e => hs₃.extBut b o h2 (up2 b o h1 e)
        have gI3 : ∃ oI, h₂.get? I = some oI := ⟨_, hst₂⟩
        obtain ⟨oI, gI2⟩ := gI3
        have gI3 : h₃.get? I = some oI := hs₃.extBut _ _ (by first | exact d02 | exact d03 | exact d01 | exact d23 | exact d21 | exact d31 | exact d02.symm | exact d03.symm | exact d01.symm | exact d23.symm | exact d21.symm | exact d31.symm) gI2
        have F₃ : Fr h₀ env.locals h₃ m := (fr_but F' hk₂ (Ne.symm nI.1) nI.2).change hs₃ nK.1 nK.2
        have N₃ : News h₀ env.locals h₃ ((I, oI) :: (I + 2, oC) :: (I + 2 + 1, oK') :: (I + 1, lst (yOf a)) :: nOf a) := fun p hp => by
          rcases List.mem_cons.mp hp with rfl | hp
          · exact ⟨gI3, nI.1, nI.2⟩
          rcases List.mem_cons.mp hp with rfl | hp
          · exact ⟨up3 _ _ (by first | exact d02 | exact d03 | exact d01 | exact d23 | exact d21 | exact d31 | exact d02.symm | exact d03.symm | exact d01.symm | exact d23.symm | exact d21.symm | exact d31.symm) (by first | exact d02 | exact d03 | exact d01 | exact d23 | exact d21 | exact d31 | exact d02.symm | exact d03.symm | exact d01.symm | exact d23.symm | exact d21.symm | exact d31.symm) zC.1, zC.2⟩
          rcases List.mem_cons.mp hp with rfl | hp
          · exact ⟨gK', nK.1, nK.2⟩
          rcases List.mem_cons.mp hp with rfl | hp
          · exact ⟨up3 _ _ (by first | exact d02 | exact d03 | exact d01 | exact d23 | exact d21 | exact d31 | exact d02.symm | exact d03.symm | exact d01.symm | exact d23.symm | exact d21.symm | exact d31.symm) (by first | exact d02 | exact d03 | exact d01 | exact d23 | exact d21 | exact d31 | exact d02.symm | exact d03.symm | exact d01.symm | exact d23.symm | exact d21.symm | exact d31.symm) zD.1, zD.2⟩
          · have z := N' p (.tail _ (.tail _ (.tail _ hp)))
            exact ⟨up3 _ _ (off' p hp).1 (off' p hp).2.2.1 z.1, z.2⟩
        refine wpAny_mono (turn i t' a I oI (I + 2) oC (I + 2 + 1) oK' (I + 1) h₃ _ _ hlt hI' dK' F₃ N₃ off' ⟨by omega, by omega, by omega, by omega, by omega, by omega⟩) (fun y' s₄ h₄ => ?_) fun _ _ e => e
        obtain ⟨h₄, tk₄, a', rfl, F₄, N₄, off₄, hy4, hI₄⟩ := h₄
        have yI := (N₄ (I, oI) (.head _)).1
        have yC := (N₄ (I + 2, oC) (.tail _ (.head _)))
        have yK := (N₄ (I + 2 + 1, oK') (.tail _ (.tail _ (.head _))))
        have yD := (N₄ (I + 1, lst (yOf a)) (.tail _ (.tail _ (.tail _ (.head _)))))
        refine append_at (hsz := by show (yOf a).toArray.size ≤ sizeLine; rw [List.size_toArray, hyl, sizeLine_eq]; omega) yD.1 fun h₅ hs₅ hD₅ => ?_
        refine ⟨n + 1 - (i + 1), by omega, h₅, tk₄, i + 1, a', oC, oK', mC, _, rfl, hlt, rfl, by rw [hy4, List.length_append, hyl]; rfl, ?_, F₄.change hs₅ nD.1 nD.2, ?_, hnC, dK', off₄, hI₄⟩
        · show h₅.get? I = some _
          have e2 : h₂.get? I = some _ := hst₂
          rw [gI2] at e2
          rw [hs₅.extBut _ _ (by first | exact d02 | exact d03 | exact d01 | exact d23 | exact d21 | exact d31 | exact d02.symm | exact d03.symm | exact d01.symm | exact d23.symm | exact d21.symm | exact d31.symm) yI, e2]
        · intro p hp
          rcases List.mem_cons.mp hp with rfl | hp
          · exact ⟨hs₅.extBut _ _ (by first | exact d02 | exact d03 | exact d01 | exact d23 | exact d21 | exact d31 | exact d02.symm | exact d03.symm | exact d01.symm | exact d23.symm | exact d21.symm | exact d31.symm) yC.1, yC.2⟩
          rcases List.mem_cons.mp hp with rfl | hp
          · exact ⟨hs₅.extBut _ _ (by first | exact d02 | exact d03 | exact d01 | exact d23 | exact d21 | exact d31 | exact d02.symm | exact d03.symm | exact d01.symm | exact d23.symm | exact d21.symm | exact d31.symm) yK.1, yK.2⟩
          rcases List.mem_cons.mp hp with rfl | hp
          · refine ⟨?_, nD.1, nD.2⟩
            rw [hy4]
            exact hD₅.trans (congrArg some (lst_snoc (yOf a) y'))
          · have z := N₄ p (.tail _ (.tail _ (.tail _ (.tail _ hp))))
            exact ⟨hs₅.extBut _ _ (off₄ p hp).2.2.2 z.1, z.2⟩
      · obtain rfl : i = n := Nat.le_antisymm hi (Nat.not_lt.mp hlt)
        refine W.done _ _ _ hst fun h₂ tk₂ hk₂ => ?_
        have up2 : ∀ b o, b ≠ I → h'.get? b = some o → h₂.get? b = some o := fun b o hb e => hk₂ b o (by simpa using hb) e
        have F2 := fr_but F' hk₂ (Ne.symm nI.1) nI.2
        show wpAny _ A (assign (.Name y py) env (.ref (I + 1))) _ _ _
        refine wpAny_assign_Name (wpAny_storeName_local hy F2.ns (fun h₃ hn₃ hs₃ => ?_) hp)
        have hL₀ : h₀.get? env.locals = none := Heap.get?_none_of_le F2.above
        have F₃ : Fr h₀ env.locals h₃ (fun z => if z = y then some (.ref (I + 1)) else m z) := ⟨hn₃, fun b o e => hs₃.extBut b o (fun q => by rw [q, hL₀] at e; cases e) (F2.keep b o e), F2.above⟩
        have zC := N' (I + 2, oC) (.head _)
        have zD := N' (I + 1, lst (yOf a)) (.tail _ (.tail _ (.head _)))
        have up3 : ∀ b o, b ≠ I → b ≠ env.locals → h'.get? b = some o → h₃.get? b = some o := fun b o h1 h2 e => hs₃.extBut b o h2 (up2 b o h1 e)
        refine ⟨mC, hnC.ns (up3 _ _ (by first | exact d02 | exact d03 | exact d01 | exact d23 | exact d21 | exact d31 | exact d02.symm | exact d03.symm | exact d01.symm | exact d23.symm | exact d21.symm | exact d31.symm) nC'.1 zC.1), fun h₄ hs₄ => ?_⟩
        refine done a (I + 1) h₄ _ hI' (F₃.change hs₄ nC'.1 nC'.2) (fun p hp => ?_) fun p hp => (off' p hp).2.2.2
        rcases List.mem_cons.mp hp with rfl | hp
        · exact ⟨hs₄.extBut _ _ (by first | exact d02 | exact d03 | exact d01 | exact d23 | exact d21 | exact d31 | exact d02.symm | exact d03.symm | exact d01.symm | exact d23.symm | exact d21.symm | exact d31.symm) (up3 _ _ (by first | exact d02 | exact d03 | exact d01 | exact d23 | exact d21 | exact d31 | exact d02.symm | exact d03.symm | exact d01.symm | exact d23.symm | exact d21.symm | exact d31.symm) nD.1 zD.1), zD.2⟩
        · have z := N' p (.tail _ (.tail _ (.tail _ hp)))
          exact ⟨hs₄.extBut _ _ (off' p hp).2.1 (up3 _ _ (off' p hp).1 z.2.1 z.1), z.2⟩
    · show h₁.get? I = some _
      rw [gI, ← eOI]
      simp
    · intro p hp
      rcases List.mem_cons.mp hp with rfl | hp
      · exact ⟨gC, nC'.1, nC'.2⟩
      rcases List.mem_cons.mp hp with rfl | hp
      · exact ⟨hK1, nK.1, nK.2⟩
      rcases List.mem_cons.mp hp with rfl | hp
      · rw [hy0]
        exact ⟨gD, nD.1, nD.2⟩
      · exact ⟨old _ _ (N p hp).1, (N p hp).2⟩
    · intro p hp
      have := lt0 _ _ (N p hp).1
      exact ⟨Nat.ne_of_lt this, Nat.ne_of_lt (Nat.lt_of_lt_of_le this (Nat.le_add_right _ _)), Nat.ne_of_lt (Nat.lt_of_lt_of_le this (Nat.le_trans (Nat.le_add_right _ _) (Nat.le_add_right _ _))), Nat.ne_of_lt (Nat.lt_of_lt_of_le this (Nat.le_add_right _ _))⟩
  exact codeAny_compStart_list (loop _ rfl) (W.self 0 _ _ _ (by
    show h₁.get? I = some _
    rw [gI, ← eOI]
    simp) (loop _ rfl))
noncomputable def TestPost (h₀ : Heap) (L : Addr) (m : Str → Option Value) (led : List (Addr × Obj)) (s : Shared) (b ok : Bool) (s' : Shared) : Prop := ok = b ∧ ∃ h' tk', s' = { s with heap := h', toks := tk' } ∧ Fr h₀ L h' m ∧ News h₀ L h' led
theorem filterT {px : Pos} {ct : Expr} {x : Str} {scope : Scope} {cl : List (Str × Addr)} {S : List (Addr × Obj) → Prop} {its : Array Value} {pz : Value → Bool} {Fin : List Value → List (Addr × Obj) → Prop} {news : List (Addr × Obj)} (hS : S news)
    (turn : ∀ (i : Nat) v ys I oI C oC D m₂ h tk (E' : Value → Shared → Prop), its[i]? = some v → NsObj oC m₂ → m₂ x = some v → Fr h₀ L h m → News h₀ L h ((I, oI) :: (C, oC) :: (D, lst ys) :: news) → Off3 I C D news → ((@Ne Nat I C) ∧ (@Ne Nat I D) ∧ (@Ne Nat C D)) →
      wpAny (model prog w) A (isTrue ct (compEnvC scope cl C env) (eval ct (compEnvC scope cl C env))) (TestPost h₀ L m ((I, oI) :: (C, oC) :: (D, lst ys) :: news) s (pz v)) E' { s with heap := h, toks := tk })
    (hk : ∀ C, (compEnvC scope cl C env).scope.kind = .function) (hl : ∀ C, (compEnvC scope cl C env).kindOf x = some .local) (hd : (x == ("__debug__" : Str)) = false)
    (fin : Fin (its.toList.filter pz) news) : ∀ k i, i + k = its.size → LCt.CompRestT prog w A h₀ L m env ct (.Name x px) x scope cl s S (fun i v => its[i]? = some v) Fin k i ((its.toList.take i).filter pz) news
  | 0, i, e => by
    have : i = its.toList.length := by simpa using e
    rw [this, List.take_length]
    exact fin
  | k + 1, i, e => by
    refine LCt.CompRestT.succ fun v I oI C oC D m₂ h tk E' hP hC hx F N ho hne => ?_
    have ih := filterT (px := px) hS turn hk hl hd fin k (i + 1) (by omega)
    rw [take_succ_filter pz its.toList i v (by simpa using hP)] at ih
    refine wpAny_mono (turn i v _ I oI C oC D m₂ h tk E' hP hC hx F N ho hne) (fun ok s₂ q => ?_) fun _ _ e => e
    obtain ⟨rfl, h', tk', rfl, F', N'⟩ := q
    cases hp : pz v with
    | false =>
      rw [if_neg (by simp)]
      rw [hp, if_neg (by simp), List.append_nil] at ih
      exact ⟨h', tk', news, rfl, F', N', ho, hS, ih⟩
    | true =>
      rw [if_pos rfl]
      rw [hp, if_pos rfl] at ih
      exact LCgL.ld_own N' (.tail _ (.head _)) hC hx ⟨h', tk', news, rfl, F', N', ho, hS, ih⟩ (hk C) (hl C) hd
section
variable {M : Model} {K : Frag} {C : Addr} {mg mb : Str → Option Value} {news : List (Addr × Obj)} {scope : Scope} {cl : List (Str × Addr)} {p : Program} {loose : List Str} {x : Str} {pos : Pos} {v : Value} {Q : Value → Shared → Prop}
theorem ldG_C (F : Fr h₀ L s.heap m) (X : K.In h₀) (T : TopRead p loose mg mb h₀) (e : nsIn K mainGlobals x = some (some v)) (h : Q v s) (hg : env.globals = mainGlobals := by rfl)
    (hk : (compEnvC scope cl C env).scope.kind = .function := by rfl) (hx : (compEnvC scope cl C env).kindOf x = some .globalImplicit := by rfl) (hd : (x == ("__debug__" : Str)) = false := by decide) :
    wpAny M A (eval (.Name x pos) (compEnvC scope cl C env)) Q E s :=
  Name_function_global hk hx (loadGlobal_global (env := compEnvC scope cl C env) (show s.heap.Ns env.globals mg from hg ▸ (T.keeps F.keep).g) (mg_of X T.g e) h) hd
theorem ldB_C (F : Fr h₀ L s.heap m) (X : K.In h₀) (T : TopRead p loose mg mb h₀) (e : nsIn K mainGlobals x = some none) (hv : bootBuiltins x = some v) (hn : x ≠ "__name__") (h : Q v s) (hg : env.globals = mainGlobals := by rfl) (hb : env.builtins = builtinsNs := by rfl)
    (hk : (compEnvC scope cl C env).scope.kind = .function := by rfl) (hx : (compEnvC scope cl C env).kindOf x = some .globalImplicit := by rfl) (hd : (x == ("__debug__" : Str)) = false := by decide) :
    wpAny M A (eval (.Name x pos) (compEnvC scope cl C env)) Q E s :=
  Name_function_global hk hx (loadGlobal_builtin (env := compEnvC scope cl C env) (show s.heap.Ns env.globals mg from hg ▸ (T.keeps F.keep).g) (mg_none_of X T.g e) (show s.heap.Ns env.builtins mb from hb ▸ (T.keeps F.keep).b) ((T.builtins x hn).trans hv) h) hd
end
end
end Mine
end
-- U2
section
open PySem PySem.W PySem.Calls PyProof.Rows
set_option maxRecDepth 100000
namespace Mine
noncomputable def putI (d : List (Int × Int)) (k c : Int) : List (Int × Int) := if d.any (fun p => p.1 = k) then d.map (fun p => if p.1 = k then (p.1, c) else p) else d ++ [(k, c)]
theorem DV.swap {k c : Int} {t : Tok} {kvs : List (Int × Value)} {d : List (Int × Int)} (h : DV kvs d) : DV (kvs.map fun p => if p.1 = k then (p.1, .int c t) else p) (d.map fun p => if p.1 = k then (p.1, c) else p) := by
  induction h with
  | nil => exact .nil
  | @cons k' c' t' kvs d h ih =>
    simp only [List.map_cons]
    by_cases e : k' = k
    · rw [if_pos e, if_pos e]; exact .cons ih
    · rw [if_neg e, if_neg e]; exact .cons ih
theorem DV.put {kvs : List (Int × Value)} {d : List (Int × Int)} {k c : Int} {t : Tok} (h : DV kvs d) : DV (PySem.stored kvs k (.int c t)) (putI d k c) := by
  unfold PySem.stored putI
  rw [h.any k]
  split
  · exact h.swap
  · exact h.snoc
noncomputable def dueF (q : List Int) (l : List Int) : List (Int × Int) := l.foldl (fun d x => putI d x (q.count x)) []
noncomputable abbrev dueD (q : List Int) : List (Int × Int) := dueF q q
theorem ints_snoc {v : Value} : ∀ {l : List Value} {as : List Int}, IntsAre (l ++ [v]) as → ∃ as₀ a t, as = as₀ ++ [a] ∧ IntsAre l as₀ ∧ v = .int a t
  | [], as, h => by
    cases h with
    | cons a t h' => cases h'; exact ⟨[], a, t, rfl, .nil, rfl⟩
  | _ :: _, _, .cons n t h => by
    obtain ⟨as₀, a, u, rfl, h₀, ha⟩ := ints_snoc h
    exact ⟨n :: as₀, a, u, rfl, .cons n t h₀, ha⟩
theorem stored_dv (q : List Int) {l : List Value} {kvs : List (Int × Value)} (h : StoredAll (fun v k => ∃ t, v = .int k t) (fun v y => ∃ k t u, v = .int k t ∧ y = .int (q.count k : Nat) u) l kvs) : ∀ q', IntsAre l q' → DV kvs (dueF q q') := by
  induction h with
  | nil => intro q' hq; cases hq; exact .nil
  | snoc _ hk hy ih =>
    intro q' hq
    obtain ⟨as₀, a, t, rfl, h₀, rfl⟩ := ints_snoc hq
    obtain ⟨t1, e1⟩ := hk
    obtain ⟨k2, t2, u2, e2, rfl⟩ := hy
    cases e1
    cases e2
    rw [dueF, List.foldl_append]
    exact (ih _ h₀).put
section
variable {prog : Program} {w : World} {A : Around} {E : Value → Shared → Prop} {s : Shared} {h₀ : Heap} {L : Addr} {m : Str → Option Value} {env : Env} {news : List (Addr × Obj)}
theorem dict_counts {px pt pi pos : Pos} {vx : Expr} {scope : Scope} {c l : Addr} {oc : Obj} {vs : List Value} {n : Nat} {q : List Int} {Q : Value → Shared → Prop} (F : Fr h₀ L s.heap m) (N : News h₀ L s.heap news)
    (hl : (l, listObj vs n) ∈ news) (hc : (c, oc) ∈ news) (hoc : oc.data = .cell (some (.ref l))) (hq : IntsAre vs q) (hsz : vs.length ≤ 1000) (hbig : sysModules < h₀.objs.size)
    (hh : A.handled = none) (hclos : closureFor scope env = pure [(Str.ofString "parts", c)]) (hcell : ∀ z ∈ scope.names, z.2 ≠ .cell) (hkind : scope.kind = .function)
    (hnames : ∀ z ∈ scope.names, z.2 = .local → scope.names.lookup z.1 = some .local) (hx : scope.names.lookup (Str.ofString "part") = some .local)
    (hlx : ∀ C, (compEnvC scope [(Str.ofString "parts", c)] C env).kindOf (Str.ofString "part") = some .local)
    (hval : ∀ C k t (s₃ : Shared) m₃ (E' : Value → Shared → Prop), k ∈ q → s₃.heap.Ns C m₃ → m₃ (Str.ofString "part") = some (.int k t) → s₃.heap.IsList l vs.toArray → s₃.heap.IsCell c (some (.ref l)) → s₃.heap.get? l = some (listObj vs n) →
      wpAny (model prog w) A (eval vx (compEnvC scope [(Str.ofString "parts", c)] C env)) (fun v s₄ => (∃ u, v = .int (q.count k : Nat) u) ∧ Keeps s₃ s₄) E' s₃)
    (hit : ∀ Q' : Value → Shared → Prop, Q' (.ref l) s → wpAny (model prog w) A (eval (.Name (Str.ofString "parts") pi) env) Q' E s)
    (h : ∀ D o kvs h' tk, (∀ p ∈ news, p.1 < D) → Fr h₀ L h' m → News h₀ L h' ((D, o) :: news) → (D == sysModules) = false → o.IsDictOf (PySem.intKind prog w) kvs → DV kvs (dueD q) → Q (.ref D) { s with heap := h', toks := tk })
    (hs : ∀ v, foldedSetIterable (.Name (Str.ofString "parts") pi) env v = pure v := by intro _; rfl) :
    wpAny (model prog w) A (eval (.DictComp (.Name (Str.ofString "part") px) vx [⟨.Name (Str.ofString "part") pt, .Name (Str.ofString "parts") pi, [], 0⟩] scope pos) env) Q E s := by
  rw [arm_eval_DictComp]
  refine wpAny_comprehension_free (use := none) rfl hs hclos hkind hnames (hit _ ?_)
  have hlist := isList_led N hl
  have hne : l ≠ s.heap.objs.size := Nat.ne_of_lt (Heap.lt_size (N _ hl).1)
  refine wpAny_pyIter_list hlist ?_
  have W := Walks.list (prog := prog) (w := w) hh s.heap.objs.size l hne vs.toArray
  obtain ⟨H0, gens, drawn, toks, os⟩ := s
  dsimp only at F N hlist hne W h hit ⊢
  generalize eOI : ({ cls := .type "list_iterator", data := .fields #[.ref l, .int 0 0] } : Obj) = oI0
  generalize eH1 : H0.push oI0 = H1
  refine wpAny_newObj_type (wpAny_newFunctionEnv hcell (by intro y hy; simp at hy) (fun h₁ hns₁ hsb₁ => ?_) hkind)
  dsimp only at hns₁ hsb₁ ⊢
  have hnew : (H1.push { cls := .type "dict", dict := none, data := .dict #[] }).DictOf (PySem.intKind prog w) H1.objs.size [] := Heap.DictOf.new H1
  generalize eH2 : H1.push { cls := .type "dict", dict := none, data := .dict #[] } = H2 at hns₁ hsb₁ hnew ⊢
  have s1 : H1.objs.size = H0.objs.size + 1 := by rw [← eH1, Heap.size_push]
  have s2 : H2.objs.size = H0.objs.size + 2 := by rw [← eH2, Heap.size_push, s1]
  generalize eI : H0.objs.size = I at *
  rw [s1] at hnew ⊢
  rw [s2] at hns₁ hsb₁ ⊢
  have lt0 : ∀ b o, H0.get? b = some o → b < I := fun b o e => eI ▸ Heap.lt_size e
  have lt2 : ∀ b o, H0.get? b = some o → b ≠ I + 2 := fun b o e => Nat.ne_of_lt (Nat.lt_of_lt_of_le (lt0 b o e) (Nat.le_add_right _ _))
  have ltD : ∀ b o, H0.get? b = some o → b ≠ I + 1 := fun b o e => Nat.ne_of_lt (Nat.lt_of_lt_of_le (lt0 b o e) (Nat.le_add_right _ _))
  have old : ∀ b o, H0.get? b = some o → h₁.get? b = some o := fun b o e => hsb₁.extBut b o (lt2 b o e) (Heap.get?_push_of_some _ (eH2 ▸ Heap.get?_push_of_some _ (eH1 ▸ Heap.get?_push_of_some _ e)))
  have d02 : @Ne Nat I (I + 2) := by omega
  have d01 : @Ne Nat I (I + 1) := by omega
  have d12 : @Ne Nat (I + 1) (I + 2) := by omega
  have gI : h₁.get? I = some oI0 := hsb₁.extBut _ _ d02 (Heap.get?_push_of_some _ (eH2 ▸ Heap.get?_push_of_some _ (by rw [← eH1, ← eI, ← eOI]; exact Heap.get?_push_size _ rfl)))
  have hacc : h₁.DictOf (PySem.intKind prog w) (I + 1) [] := hnew.at fun o e => hsb₁.extBut _ _ d12 (Heap.get?_push_of_some _ e)
  have new0 : ∀ a, I ≤ a → a ≠ L ∧ h₀.get? a = none ∧ (a == sysModules) = false := fun a ha => by
    have hL := F.ns.lt
    have ha0 := Nat.le_trans (Nat.le_of_lt (Nat.lt_of_le_of_lt F.above (eI ▸ hL))) ha
    refine ⟨fun e => ?_, ?_, ?_⟩
    · rw [eI] at hL
      subst e
      exact Nat.lt_irrefl _ (Nat.lt_of_lt_of_le hL ha)
    · exact Heap.get?_none_of_le ha0
    · rw [beq_eq_false_iff_ne]
      exact fun e => Nat.lt_irrefl _ (Nat.lt_of_lt_of_le (e ▸ hbig) ha0)
  have nI := new0 I (Nat.le_refl _)
  have nD := new0 (I + 1) (Nat.le_add_right _ _)
  have nC := new0 (I + 2) (Nat.le_add_right _ _)
  have hlN := (N _ hl).1
  have hlI := lt0 _ _ hlN
  have st0 : h₁.IsListIter I l 0 ∧ h₁.IsList l vs.toArray := ⟨⟨_, gI, by rw [← eOI], by rw [← eOI]; rfl⟩, ⟨_, old _ _ hlN, rfl, n, rfl⟩⟩
  have fpI : ∀ a : Addr, I < a → a ∉ [I, l] := fun a ha hm => by
    rcases List.mem_cons.mp hm with e | hm
    · subst e; exact Nat.lt_irrefl _ ha
    · rw [List.mem_singleton.mp hm] at ha; exact Nat.lt_irrefl _ (Nat.lt_trans ha hlI)
  have up : ∀ {s₃ : Shared}, (∀ b o, b ≠ I + 2 → b ∉ [I] → b ≠ I + 1 → h₁.get? b = some o → s₃.heap.get? b = some o) → ∀ b o, H0.get? b = some o → s₃.heap.get? b = some o :=
    fun k b o e => k b o (lt2 b o e) (fun hm => by rw [List.mem_singleton.mp hm] at e; exact Nat.lt_irrefl _ (lt0 _ _ e)) (ltD b o e) (old b o e)
  have loop : ∀ s₃ : Shared, s₃ = { heap := h₁, gens := gens, drawn := drawn, toks := toks + ([] : List (Str × Value)).length, os := os } →
      codeAny (model prog w) A (.compLoop (.DictComp (.Name (Str.ofString "part") px) vx [⟨.Name (Str.ofString "part") pt, .Name (Str.ofString "parts") pi, [], 0⟩] scope pos) 0 (.ref I) (.ref (I + 1)) (compEnvC scope [(Str.ofString "parts", c)] (I + 2) env))
        (compPost (model prog w) A E none Q (.ref (I + 1)) (I + 2)) s₃ := by
    rintro s₃ rfl
    refine codeAny_compLoop_walkD (hsz := by rw [List.size_toArray, sizeLine_eq]; omega) (knd := PySem.intKind prog w) (cenv := compEnvC scope [(Str.ofString "parts", c)] (I + 2) env) W (fun _ => true) (fun v k => ∃ t, v = .int k t) (fun v y => ∃ k t u, v = .int k t ∧ y = .int (q.count k : Nat) u) (lookup_relabel_local hx) (by simp [compEnvC, relabel, hkind]) d12 (fpI _ (Nat.lt_succ_self _)) (fpI _ (by show I < I + 2; omega)) st0 hacc hns₁
      ?_ ?_ ?_ ?_
    · intro i v s₃ m₃ hv hn hm hk
      exact wpAny_tests_nil ⟨rfl, _, _, rfl, fun _ _ e => e⟩
    · intro i v s₃ m₃ hv _ hn hm hk
      obtain ⟨k, t, rfl, _⟩ := hq.at i v (by simpa using hv)
      exact ldVarK hn hm ⟨⟨k, intKind_is _ _ _ _, t, rfl⟩, _, _, rfl, fun _ _ e => e⟩ hkind (hlx _)
    · intro i v s₃ m₃ hv _ hn hm hk
      obtain ⟨k, t, rfl, hk'⟩ := hq.at i v (by simpa using hv)
      have hl3 : s₃.heap.IsList l vs.toArray := ⟨_, up hk _ _ hlN, rfl, n, rfl⟩
      exact wpAny_mono (hval _ k t s₃ m₃ _ (List.mem_of_getElem? hk') hn hm hl3 ⟨oc, up hk _ _ (N _ hc).1, hoc⟩ (up hk _ _ hlN)) (fun v s₄ r => by obtain ⟨⟨u, e⟩, r2⟩ := r; exact ⟨⟨k, t, u, rfl, e⟩, r2⟩) fun _ _ e => e
    · intro h' tk m' kvs vs' hn ha hlen hP hF hk
      have e : vs' = vs := by simpa using list_of_places hlen hP
      subst e
      refine ⟨m', hn, fun h'' hs'' => ?_⟩
      have keep : ∀ b o, H0.get? b = some o → h''.get? b = some o := fun b o e => hs''.extBut b o (lt2 b o e) (up (s₃ := ⟨h', gens, drawn, tk, os⟩) hk b o e)
      obtain ⟨oD, gD, dD⟩ := Heap.dictOf_iff.mp (ha.extBut hs''.extBut d12)
      have hdv := stored_dv q hF q (by rw [List.filter_eq_self.mpr (fun _ _ => rfl)]; exact hq)
      refine h (I + 1) oD kvs h'' tk (fun p hp => Nat.lt_succ_of_lt (lt0 _ _ (N p hp).1)) (F.keeps keep) (fun p hp => ?_) nD.2.2 dD hdv
      rcases List.mem_cons.mp hp with rfl | hp
      · exact ⟨gD, nD.1, nD.2.1⟩
      · exact ⟨keep _ _ (N p hp).1, (N p hp).2⟩
  exact codeAny_compStart_dict (loop _ rfl) (W.self 0 _ _ _ st0 (loop _ rfl))
end
end Mine
end
-- U1
section
open PySem PySem.W PySem.Calls PyProof.Rows
set_option maxRecDepth 100000
set_option maxHeartbeats 8000000
namespace Mine
local macro_rules | `(tactic| walk_at "exec Assign cons ListComp") => `(tactic| (refine hold ?_))
local macro_rules | `(tactic| walk_at "eval ListComp") => `(tactic| (refine hold ?_))
local macro_rules | `(tactic| walk_at "CompSrcT") => `(tactic| (refine hold ?_))
local macro_rules | `(tactic| walk_at "eval Name") => `(tactic| ((with_reducible show wpAny _ _ (eval (Expr.Name _ _) (compEnvC _ _ _ _)) _ _ _); k_dflt (first | refine ldB_C (by k_asm) (by k_asm) (by k_asm) (by k_is) (by boot_by_name) (by decide) ?_ | refine ldG_C (by k_asm) (by k_asm) (by k_asm) (by k_is) ?_)))
local macro_rules | `(tactic| walk_at "eval DictComp") => `(tactic| (refine hold ?_))
/-- how many of the ints leave k by 3 -/
noncomputable def cnt3 (q : List Int) (k : Int) : Int := ((q.filter fun x => x % 3 == k).length : Int)
theorem AllLt.mem {d : Addr} : ∀ {l : List (Addr × Obj)}, AllLt d l → ∀ p ∈ l, p.1 < d
  | [], _, p, hp => by cases hp
  | q :: r, h, p, hp => by
    rcases List.mem_cons.mp hp with rfl | hp
    · exact h.1
    · exact AllLt.mem h.2 p hp
theorem list3 {ys : List Value} {a b c : Value} (h : ys.length = 3) (e0 : ys[0]? = some a) (e1 : ys[1]? = some b) (e2 : ys[2]? = some c) : ys = [a, b, c] := by
  cases ys with
  | nil => cases h
  | cons a' ys => cases ys with
    | nil => cases h
    | cons b' ys => cases ys with
      | nil => cases h
      | cons c' ys => cases ys with
        | nil => cases e0; cases e1; cases e2; rfl
        | cons d ys => exact absurd h (by simp)
theorem ints_filter (f : Int → Bool) (g : Value → Bool) (h : ∀ z t, g (.int z t) = f z) {vs : List Value} {q : List Int} (hq : IntsAre vs q) : (vs.filter g).length = (q.filter f).length := by
  induction hq with
  | nil => rfl
  | cons n t hh ih =>
    rw [List.filter_cons, List.filter_cons, h]
    split
    · simp [ih]
    · exact ih
section
variable {w : World} {mg mb : Str → Option Value} {dp un : Nat} {gd : Option (List Code)} {cn : Str} {cs : Scope} {a : Addr} {ccd : Value} {cl : List (Str × Addr)} {outer : List Env} {A₀ : Around} {base h₀ : Heap} {L : Addr} {m : Str → Option Value} {s : Shared} {Q E : Value → Shared → Prop} {news : List (Addr × Obj)}
theorem due_ct {p : Addr} {vs : List Value} {n : Nat} {q : List Int} (B : Below A₀ base outer h₀) (F : Fr h₀ L s.heap m) (N : News h₀ L s.heap ((p, listObj vs n) :: news)) (T : TopRead hd.view_39 (looseW hd.view_39 [Str.ofString "_twin_re_1", Str.ofString "_twin_re_2"]) mg mb h₀)
    (hk : cs.kind = .function) (hdp : dp + 15 < recursionLimit) (hun : un + 600 < cLine) (hG : AllBare s.gens)
    (hq : IntsAre vs q) (hlen : q.length ≤ 7) (hpos : ∀ x ∈ q, 1 ≤ x ∧ x ≤ 7)
    (hret : ∀ T' D o kvs t0 t1 t2 t3 (s' : Shared), s'.os = s.os → AllBare s'.gens → Fr h₀ L s'.heap m → News h₀ L s'.heap ((T', ({ cls := .type "tuple", data := .seq #[.int (cnt3 q 0) t0, .int (cnt3 q 1) t1, .int (cnt3 q 2) t2, .int q.sum t3, .ref D] } : Obj)) :: (D, o) :: (p, listObj vs n) :: news) → (D == sysModules) = false → o.IsDictOf (PySem.intKind Challenge.rw_pg0093_01.row.prog w) kvs → DV kvs (dueD q) → Q (.ref T') s') :
    (hd.heap_39 w.params).In h₀ → wpAny (model Challenge.rw_pg0093_01.row.prog w) (ktrTop dp un gd cn cs L a ccd cl outer) (call (.ref 86) [.ref p]) Q E s := by
  k_fill
  intro X
  refine wpAny_call ?_
  k_dflt (walk_at "cell_enterC")
  k_steps
  refine unhold ?_
  rename_i g7 L7 h7 _ FG7 F7 B7 X7 T7 hl7 c7 dc7 N7
  have offp : Off (L7 + 1) ((p, listObj vs n) :: news) := fun q hq => Nat.ne_of_lt (Nat.lt_succ_of_lt (AllLt.mem (l := (p, listObj vs n) :: news) hl7 q hq))
  have hlen' : vs.length ≤ 7 := by have := hq.length; omega
  with_unfolding_all refine' Assign_comp_cell (σ := List Value) (fun _ => (L7 + 1, c7) :: (p, listObj vs n) :: news) (fun ys => ys) (fun i ys => ys.length = i ∧ ∀ j, j < i → ∃ t, ys[j]? = some (.int (cnt3 q j) t)) [] 3 F7 rfl rfl ?sw ?clos ?cf ?pc rfl ?nm ?kx rfl rfl ?_
  case sw => with_unfolding_all rfl
  case clos => with_unfolding_all rfl
  case cf => intro _ _; rfl
  case pc => intro _; rfl
  case nm => decide
  case kx => rfl
  k_steps
  unfold CellSrc
  rename Fr _ _ _ _ => F8
  rename News _ _ _ _ => N8
  refine ⟨_, _, _, _, _, _, rfl, by assumption, by decide +kernel, by decide +kernel, by decide, F8, N8, rfl, ⟨rfl, fun j hj => absurd hj (Nat.not_lt_zero _)⟩, ?_, ?_⟩
  · intro i t' ys I oI C oC K oK D g tk E' hi hI hK F9 N9 off9 ne9
    clear F8 N8
    k_steps
    refine unhold ?_
    rename Fr _ _ _ _ => F10
    rename News _ _ _ _ => N10
    with_unfolding_all refine' LCt.ListComp_T (F₀ := F10) ?cl2 ?hc2 ?hk2 ?hn2 ?hx2 ?_
    case cl2 => with_unfolding_all rfl
    case hc2 => decide
    case hk2 => rfl
    case hn2 => decide
    case hx2 => rfl
    k_steps
    refine unhold ?_
    rename Fr _ _ _ _ => F11
    rename News _ _ _ _ => N11
    refine LCt.CompSrcT.ledger rfl F11 N11 (.tail _ (.tail _ (.tail _ (.tail _ (.tail _ (.head _)))))) (by rw [List.size_toArray, sizeLine_eq]; omega) ?_
    intro g2
    refine filterT (pz := fun v => match v with | .int z _ => z % 3 == (i : Int) | _ => false) (.inr ⟨_, .tail _ (.tail _ (.tail _ (.tail _ (.tail _ (.head _))))), rfl, _, rfl⟩) ?_ (fun _ => rfl) (fun _ => rfl) (by decide) ?_ _ 0 (Nat.zero_add _)
    · intro j v zs I2 oI2 C2 oC2 D2 m2 h2 tk2 E2 hv hC2 hx2 F12 N12 off12 ne12
      clear F11 N11
      obtain ⟨z, tz, rfl, hz⟩ : ∃ z tz, v = .int z tz ∧ z ∈ q := by
        obtain ⟨z, tz, e, hz⟩ := hq.at j v (by simpa using hv)
        exact ⟨z, tz, e, List.mem_of_getElem? hz⟩
      have hz7 := hpos z hz
      k_steps
      rename Fr _ _ _ _ => F13
      rename News _ _ _ _ => N13
      refine ⟨?_, _, _, rfl, F13, N13⟩
      show (z.fmod 3 == (0 + (i : Int))) = (z % 3 == (i : Int))
      rw [Int.fmod_eq_emod_of_nonneg _ (by decide), Int.zero_add]
    · intro D3 h3 tk3 F13 N13 off13
      k_steps
      have hfl := ints_filter (fun z => z % 3 == (i : Int)) (fun v => match v with | .int z _ => z % 3 == (i : Int) | _ => false) (fun _ _ => rfl) hq
      have hfl2 := List.length_filter_le (fun z => z % 3 == (i : Int)) q
      refine len_led N13 (.head _) (by rw [List.toList_toArray, hfl]; omega) ?_
      refine ⟨_, _, _, rfl, F13, nd N13, off9, rfl, ?_, fun j hj => ?_⟩
      · rw [List.length_append, hI.1]; rfl
      · rcases Nat.lt_or_ge j i with h | h
        · obtain ⟨t, e⟩ := hI.2 j h
          exact ⟨t, by rw [List.getElem?_append_left (by rw [hI.1]; exact h), e]⟩
        · have : j = i := by omega
          subst this
          have e5 : ∀ (v : Value), (ys ++ [v])[j]? = some v := fun v => by rw [List.getElem?_append_right (by rw [hI.1]; exact Nat.le_refl _), hI.1, Nat.sub_self]; rfl
          rw [e5, List.toList_toArray, hfl]
          exact ⟨_, rfl⟩
  · intro ys D g tk hI F9 N9 off9
    clear F8 N8
    obtain ⟨t0, t1, t2, rfl⟩ : ∃ t0 t1 t2, ys = [.int (cnt3 q 0) t0, .int (cnt3 q 1) t1, .int (cnt3 q 2) t2] := by
      obtain ⟨h1, h2⟩ := hI
      obtain ⟨t0, e0⟩ := h2 0 (by decide)
      obtain ⟨t1, e1⟩ := h2 1 (by decide)
      obtain ⟨t2, e2⟩ := h2 2 (by decide)
      exact ⟨t0, t1, t2, list3 h1 e0 e1 e2⟩
    clear hI
    k_steps
    refine unhold ?_
    rename Fr _ _ _ _ => F10
    rename News _ _ _ _ => N10
    have hc10 : c7.data = .cell (some (.ref p)) := dc7
    with_unfolding_all refine' dict_counts F10 N10 ?m1 ?m2 hc10 hq ?sz ?big rfl ?clo ?cel rfl ?nm rfl ?lx ?hval ?hit ?_
    case m1 => k_mem
    case m2 => k_mem
    case sz => omega
    case big => exact modules_low T7.nolimit
    case clo => with_unfolding_all rfl
    case cel => decide
    case nm => decide
    case lx => intro _; rfl
    case hit => (intro Q' hQ'; exact wpAny_Name (wpAny_loadName_cell rfl rfl rfl ⟨c7, (N10 (L7 + 1, c7) (by k_mem)).1, hc10⟩ hQ') (by decide))
    case hval =>
      intro C k t s₃ m₃ E' hk hn hm hl3 hc3 hg3
      with_unfolding_all refine' MethodCall_ (ldCellK rfl hc3 ?k1 rfl rfl) ?he
      case he => with_unfolding_all rfl
      with_unfolding_all refine getMethod_list_of PySem.F.slot_list_count PySem.F.type_list_count hl3 ⟨_, hg3, rfl⟩ ?_
      refine callWith_method1 ?_
      refine spliced_more ?_
      refine ldVarK hn hm ?_ rfl rfl
      refine spliced_none ?_
      exact count_list_ints hl3 hq ⟨⟨_, rfl⟩, _, _, rfl, fun _ _ e => e⟩
    intro D2 o2 kvs2 h2 tk2 lt2 F11 N11 lo11 hd11 dv11
    k_steps
    rename News _ _ _ _ => N7
    exact hret _ _ _ _ _ _ _ _ _ rfl hG (by assumption) (nc N7 (.head _) (nc N7 (.tail _ (.head _)) (nd (nd (nd (nd N7)))))) lo11 hd11 dv11
end
end Mine
end
-- U3
section
open PySem PySem.W PyProof.Rows
namespace Mine
theorem fold_flat (e : Str) (he : e.cps = #[]) : ∀ (rest : List Str) (acc : Array Nat), (rest.foldl (fun acc p => acc ++ e.cps ++ p.cps) acc).toList = acc.toList ++ (rest.map fun p => p.cps.toList).flatten
  | [], acc => by simp
  | p :: rest, acc => by
    rw [List.foldl_cons, fold_flat e he rest, he]
    simp
theorem join_flat (parts : List Str) : (Txt.join (Str.ofString "") parts).cps.toList = (parts.map fun p => p.cps.toList).flatten := by
  have he : (Str.ofString "").cps = #[] := by decide +kernel
  cases parts with
  | nil => rfl
  | cons p rest =>
    show (Builtin.Str.glued _ _).cps.toList = _
    unfold Builtin.Str.glued
    simp only [List.drop_one, List.tail_cons, List.headD_cons]
    rw [fold_flat _ he]
    simp
noncomputable def chrT (x : Int) : Str := ⟨#[(192 + x.fmod 5000).toNat]⟩
/-- the law's stem -/
noncomputable def stemT (q : List Int) : Str := Txt.join (Str.ofString "") (((q.take 14).take 4).map chrT) ++ Str.ofString "a"
theorem stem_list (q : List Int) : (stemT q).cps.toList = (((q.take 14).take 4).map fun x : Int => (192 + x.fmod 5000).toNat) ++ [97] := by
  have ea : (Str.ofString "a").cps.toList = [97] := by decide +kernel
  show ((Txt.join _ _).cps ++ (Str.ofString "a").cps).toList = _
  rw [Array.toList_append, join_flat, ea]
  congr 1
  generalize (q.take 14).take 4 = l
  induction l with
  | nil => rfl
  | cons x l ih => simp only [List.map_cons, List.flatten_cons, ih]; rfl
theorem stem_mem (q : List Int) : ∀ c ∈ (stemT q).cps.toList, 97 ≤ c ∧ c ≤ 5191 := fun c hc => by
  rw [stem_list] at hc
  rcases List.mem_append.mp hc with hc | hc
  · obtain ⟨x, _, rfl⟩ := List.mem_map.mp hc
    rw [Int.fmod_eq_emod_of_nonneg _ (by decide)]
    omega
  · rw [List.mem_singleton.mp hc]; decide
theorem stem_len (q : List Int) : 1 ≤ (stemT q).length ∧ (stemT q).length ≤ 5 := by
  have : (stemT q).length = (stemT q).cps.toList.length := by simp [Str.length]
  rw [this, stem_list]
  simp only [List.length_append, List.length_map, List.length_take, List.length_cons, List.length_nil]
  omega
/-- dots and a stem -/
theorem dots_stem (n : Nat) (q : List Int) : (rowT n (stemT q)).cps.toList = List.replicate n 46 ++ (stemT q).cps.toList := rowT_list n _
theorem row_ne_tilde (n : Nat) (q : List Int) : rowT n (stemT q) ≠ Str.ofString "~" := fun e => by
  have h1 := congrArg (fun x : Str => x.cps.toList.getLast?) e
  have e2 : (Str.ofString "~").cps.toList = [126] := by decide +kernel
  simp only [dots_stem, stem_list, e2] at h1
  simp at h1
theorem row_ok (n : Nat) (q : List Int) : PyData.strOk (rowT n (stemT q)) = true := by
  show PyData.strOk _ = true
  unfold PyData.strOk
  rw [← Array.all_toList, List.all_eq_true]
  intro c hc
  rw [dots_stem] at hc
  rcases List.mem_append.mp hc with hc | hc
  · rw [List.eq_of_mem_replicate hc]; decide
  · have := stem_mem q c hc
    simp; omega
theorem app_list (x y : Str) : (x ++ y).cps.toList = x.cps.toList ++ y.cps.toList := by
  show (x.cps ++ y.cps).toList = _
  simp
theorem bare_row (n : Nat) (stem : Str) (line : Int) : bareT (rowT n stem) line = rowT n (bareT stem line) := by
  have : ∀ x y : Str, x.cps.toList = y.cps.toList → x = y := fun x y h => by
    cases x; cases y
    simp only at h
    congr 1
    exact Array.toList_inj.mp h
  refine this _ _ ?_
  simp [bareT, rowT_list, app_list]
theorem line_digits (n : Nat) : ∀ c ∈ (Str.ofString (toString (n : Int))).cps.toList, 48 ≤ c ∧ c ≤ 57 := fun c hc => by
  rw [KIN.signs_num] at hc
  obtain ⟨d, hd, rfl⟩ := List.mem_map.mp hc
  have := Nat.isDigit_of_mem_toDigits (by decide) (by decide) hd
  unfold Char.isDigit at this
  simp only [Bool.and_eq_true, decide_eq_true_eq] at this
  exact ⟨this.1, this.2⟩
theorem line_len (n : Nat) (hn : n < 1000000) : (Str.ofString (toString (n : Int))).cps.toList.length ≤ 6 := by
  rw [KIN.signs_num, List.length_map]
  exact toDigits_len_pow (by decide) (by decide) (by simpa using hn)
theorem bare_list (q : List Int) (n : Nat) : (bareT (stemT q) n).cps.toList = (stemT q).cps.toList ++ [58] ++ (Str.ofString (toString (n : Int))).cps.toList ++ [40] ++ [102] ++ [41] := by
  have e1 : (Str.ofString ":").cps.toList = [58] := by decide +kernel
  have e2 : (Str.ofString "(").cps.toList = [40] := by decide +kernel
  have e3 : (Str.ofString "f").cps.toList = [102] := by decide +kernel
  have e4 : (Str.ofString ")").cps.toList = [41] := by decide +kernel
  simp only [bareT, app_list, e1, e2, e3, e4]
theorem bare_mem (q : List Int) (n : Nat) : ∀ c ∈ (bareT (stemT q) n).cps.toList, c ≠ 46 ∧ c ≠ 10 ∧ c ≠ 13 := fun c hc => by
  rw [bare_list] at hc
  simp only [List.mem_append, List.mem_singleton] at hc
  rcases hc with ((((hc | hc) | hc) | hc) | hc) | hc
  · have := stem_mem q c hc; omega
  · omega
  · have := line_digits n c hc; omega
  · omega
  · omega
  · omega
theorem bare_ok (q : List Int) (n : Nat) (hn : n < 1000000) : 46 ∉ (bareT (stemT q) n).cps.toList ∧ 10 ∉ (bareT (stemT q) n).cps.toList ∧ 13 ∉ (bareT (stemT q) n).cps.toList ∧ 1 ≤ (bareT (stemT q) n).length ∧ (bareT (stemT q) n).length ≤ 200 := by
  refine ⟨fun h => (bare_mem q n _ h).1 rfl, fun h => (bare_mem q n _ h).2.1 rfl, fun h => (bare_mem q n _ h).2.2 rfl, ?_⟩
  have e : (bareT (stemT q) n).length = (bareT (stemT q) n).cps.toList.length := by simp [Str.length]
  have e2 : (stemT q).length = (stemT q).cps.toList.length := by simp [Str.length]
  have h1 := stem_len q
  have h2 := line_len n hn
  rw [e, bare_list]
  simp only [List.length_append, List.length_cons, List.length_nil]
  omega
theorem end_n : EndOk (Str.ofString "\n").cps.toList := .inl (by decide +kernel)
theorem end_r : EndOk (Str.ofString "\r").cps.toList := .inr (.inl (by decide +kernel))
theorem end_rn : EndOk (Str.ofString "\r\n").cps.toList := .inr (.inr crlf_list)
theorem ends_snoc {i : Nat} {ys : List Value} {e : Str} {t : Tok} (h : ys.length = i ∧ ∀ y ∈ ys, ∃ e t, y = Value.str e t ∧ EndOk e.cps.toList) (he : EndOk e.cps.toList) : (ys ++ [Value.str e t]).length = i + 1 ∧ ∀ y ∈ ys ++ [Value.str e t], ∃ e t, y = Value.str e t ∧ EndOk e.cps.toList := by
  refine ⟨by rw [List.length_append, h.1]; rfl, fun y hy => ?_⟩
  rcases List.mem_append.mp hy with hy | hy
  · exact h.2 y hy
  · exact ⟨e, t, List.mem_singleton.mp hy, he⟩
theorem line_is (z : Int) : ∃ n : Nat, (z.fdiv 3).fmod (10 ^ Int.toNat 6) = (n : Int) ∧ n < 1000000 := by
  have e : (10 : Int) ^ Int.toNat 6 = 1000000 := by decide
  rw [e, Int.fmod_eq_emod_of_nonneg _ (by decide)]
  refine ⟨((z.fdiv 3) % 1000000).toNat, ?_, ?_⟩ <;> omega
end Mine
end
-- U4
section
open PySem PySem.W PyProof.Rows
namespace Mine
theorem str_ext {x y : Str} (h : x.cps.toList = y.cps.toList) : x = y := by
  cases x; cases y
  simp only at h
  congr 1
  exact Array.toList_inj.mp h
theorem fold_dots (c : Array Nat) (hc : c.toList = [46]) : ∀ (n : Nat) (acc : Array Nat), ((List.replicate n c).foldl (· ++ ·) acc).toList = acc.toList ++ List.replicate n 46
  | 0, acc => by simp
  | n + 1, acc => by
    rw [List.replicate_succ, List.foldl_cons, fold_dots c hc n, Array.toList_append, hc, List.replicate_succ]
    simp
theorem dots_mul (n : Nat) : (Txt.mul (Str.ofString ".") (n : Int)).cps.toList = List.replicate n 46 := by
  have hd : (Str.ofString ".").cps.toList = [46] := by decide +kernel
  have hl : (Str.ofString ".").length = 1 := by decide +kernel
  unfold Txt.mul
  by_cases h0 : (n : Int) < 1
  · have : n = 0 := by omega
    subst this
    rw [if_pos h0]
    rfl
  · rw [if_neg h0, hl]
    by_cases h1 : n = 1
    · subst h1
      rw [if_pos (by decide), hd]
      rfl
    · rw [if_neg (by simp; omega)]
      have := fold_dots (Str.ofString ".").cps hd n #[]
      simpa using this
theorem dots_add (n : Nat) (stem : Str) : Txt.mul (Str.ofString ".") (n : Int) ++ stem = rowT n stem := str_ext (by rw [app_list, dots_mul, rowT_list])
theorem join_mail (ps : List (Nat × Str)) (b : Str) : Txt.join (Str.ofString "") (ps.map fun p => rowT p.1 b ++ p.2) = mail0 ps b := by
  refine str_ext ?_
  rw [join_flat]
  simp [mail0, List.map_map, Function.comp_def, app_list, rowT_list]
noncomputable def stepsL (q : List Int) : List Int := (List.range q.length).map fun k => q.getD k 0 - (q ++ [0]).getD (k + 1) 0
noncomputable def natsL (q : List Int) : List Nat := q.map Int.toNat
noncomputable def look (d : List (Int × Int)) (k : Int) : Option Int := (d.find? fun p => p.1 = k).map (·.2)
/-- the entry heard is the entry due -/
noncomputable def okS (q : List Int) : Bool :=
  let e := heardS (natsL q)
  e.c0 == cnt3 q 0 && e.c1 == cnt3 q 1 && e.c2 == cnt3 q 2 && e.s == q.sum && e.d.length == (dueD q).length && e.d.all fun p => look (dueD q) p.1 == some p.2
noncomputable def keyS (q : List Int) : Int := 10 * cnt3 q 1 + cnt3 q 2
noncomputable def fstS (q : List Int) : Int := if cnt3 q 0 = 0 then 1 else 0
noncomputable def sndS (q : List Int) : Int := if (stepsL q).all (· < 3) then 1 else 0
noncomputable def addB (b : List (Int × Int × Int)) (k x y : Int) : List (Int × Int × Int) := if b.any (fun p => p.1 = k) then b.map (fun p => if p.1 = k then (p.1, x + p.2.1, y + p.2.2) else p) else b ++ [(k, x, y)]
noncomputable def bookS (qs : List (List Int)) : List (Int × Int × Int) := qs.foldl (fun b q => addB b (keyS q) (fstS q) (sndS q)) []
noncomputable def lawS (n : Nat) : Bool := (pn n n n).all (fun q => okS q && q.all (fun x => 1 ≤ x ∧ x ≤ 7) && (stepsL q).all (fun x => -100 ≤ x ∧ x ≤ 100) && !q.isEmpty) && (bookS (pn n n n)).all (fun p => p.2.1 == p.2.2)
theorem law5 : lawS 5 = true := by decide +kernel
theorem law6 : lawS 6 = true := by decide +kernel
theorem law7 : lawS 7 = true := by decide +kernel
theorem range0_ok (k : Nat) (h : k ≤ 7) : Builtin.Range.small 0 (k : Int) 1 = true ∧ Builtin.Range.rangeSize 0 (k : Int) 1 = (k : Int) := by
  have : ∀ k : Fin 8, Builtin.Range.small 0 (k.val : Int) 1 = true ∧ Builtin.Range.rangeSize 0 (k.val : Int) 1 = (k.val : Int) := by decide +kernel
  exact this ⟨k, by omega⟩
theorem ends_of {ys : List Value} (h : ∀ y ∈ ys, ∃ e t, y = Value.str e t ∧ EndOk e.cps.toList) : ∃ es, StrsAre ys es ∧ ∀ e ∈ es, EndOk e.cps.toList := by
  induction ys with
  | nil => exact ⟨[], .nil, fun e he => by cases he⟩
  | cons y ys ih =>
    obtain ⟨es, h1, h2⟩ := ih fun z hz => h z (List.mem_cons_of_mem _ hz)
    obtain ⟨e, t, rfl, h3⟩ := h y (List.mem_cons_self ..)
    exact ⟨e :: es, .cons _ _ h1, fun e' he => by
      rcases List.mem_cons.mp he with rfl | he
      · exact h3
      · exact h2 e' he⟩
/-- the parts with their ends -/
noncomputable def pairsL (q : List Int) (es : List Str) : List (Nat × Str) := (natsL q).zip es
theorem pairs_at {q : List Int} {es : List Str} {j : Nat} {z : Int} {e : Str} (h1 : q[j]? = some z) (h2 : es[j]? = some e) : (pairsL q es)[j]? = some (z.toNat, e) := by
  unfold pairsL natsL
  rw [List.getElem?_zip_eq_some]
  exact ⟨by rw [List.getElem?_map, h1]; rfl, h2⟩
theorem pairs_len {q : List Int} {es : List Str} (h : q.length ≤ es.length) : (pairsL q es).length = q.length := by
  unfold pairsL natsL
  rw [List.length_zip, List.length_map]; omega
theorem pairs_fst {q : List Int} {es : List Str} (h : q.length ≤ es.length) : (pairsL q es).map (·.1) = natsL q := by
  unfold pairsL
  rw [List.map_fst_zip]
  unfold natsL; rw [List.length_map]; exact h
theorem pairs_mem {q : List Int} {es : List Str} (hq : ∀ x ∈ q, 1 ≤ x ∧ x ≤ 7) (he : ∀ e ∈ es, EndOk e.cps.toList) : ∀ p ∈ pairsL q es, (1 ≤ p.1 ∧ EndOk p.2.cps.toList) ∧ p.1 ≤ 7 := fun p hp => by
  obtain ⟨h1, h2⟩ := List.of_mem_zip (a := p.1) (b := p.2) (by simpa [pairsL] using hp)
  obtain ⟨x, hx, e⟩ := List.mem_map.mp h1
  have := hq x hx
  refine ⟨⟨by omega, he _ h2⟩, by omega⟩
theorem sum_le (k : Nat) : ∀ l : List Nat, (∀ x ∈ l, x ≤ k) → l.sum ≤ l.length * k
  | [], _ => by simp
  | x :: l, h => by
    have h1 := h x (List.mem_cons_self ..)
    have ih := sum_le k l fun y hy => h y (List.mem_cons_of_mem _ hy)
    simp only [List.sum_cons, List.length_cons, Nat.succ_mul]
    omega
theorem end_len {e : Str} (h : EndOk e.cps.toList) : e.length ≤ 2 := by
  have : e.length = e.cps.toList.length := by simp [Str.length]
  rw [this]
  rcases h with h | h | h <;> rw [h] <;> decide
theorem app_len (x y : Str) : (x ++ y).length = x.length + y.length := by
  have e : ∀ z : Str, z.length = z.cps.toList.length := fun z => by simp [Str.length]
  rw [e, e, e, app_list, List.length_append]
theorem join_small {ps : List (Nat × Str)} {b : Str} (hb : b.length ≤ 200) (hl : ps.length ≤ 7) (h : ∀ p ∈ ps, (1 ≤ p.1 ∧ EndOk p.2.cps.toList) ∧ p.1 ≤ 7) :
    ((ps.map fun p => rowT p.1 b ++ p.2).map (·.length)).sum + (ps.map fun p => rowT p.1 b ++ p.2).length * (Str.ofString "").length ≤ 16777216 := by
  have e0 : (Str.ofString "").length = 0 := by decide +kernel
  rw [e0, Nat.mul_zero]
  have := sum_le 300 ((ps.map fun p => rowT p.1 b ++ p.2).map (·.length)) (fun x hx => by
    obtain ⟨y, hy, rfl⟩ := List.mem_map.mp hx
    obtain ⟨p, hp, rfl⟩ := List.mem_map.mp hy
    obtain ⟨⟨_, h2⟩, h3⟩ := h p hp
    have := end_len h2
    rw [app_len, rowT_length]
    omega)
  simp only [List.length_map] at this
  omega
end Mine
end
-- U5
section
open PySem PySem.W PySem.Calls PyProof.Rows
set_option maxRecDepth 100000
namespace Mine
theorem dv_look {kvs : List (Int × Value)} {d : List (Int × Int)} {k c : Int} (h : DV kvs d) (hl : look d k = some c) : ∃ t, valueAt kvs k = some (.int c t) := by
  induction h with
  | nil => cases hl
  | @cons k' c' t' kvs d h ih =>
    unfold look at hl
    unfold valueAt
    rw [List.find?_cons] at hl ⊢
    by_cases e : k' = k
    · simp only [e, decide_true] at hl ⊢
      simp only [Option.map_some, Option.some.injEq] at hl ⊢
      exact ⟨t', by rw [← hl]⟩
    · simp only [e, decide_false] at hl ⊢
      exact ih hl
theorem dv_len {kvs : List (Int × Value)} {d : List (Int × Int)} (h : DV kvs d) : kvs.length = d.length := by
  induction h with
  | nil => rfl
  | cons h ih => simp [ih]
theorem dv_hits {A : Around} {s : Shared} {k2 : List (Int × Value)} {d2 : List (Int × Int)} (h2 : DV k2 d2) {k1 : List (Int × Value)} {d1 : List (Int × Int)} (h1 : DV k1 d1) (ha : ∀ p ∈ d1, look d2 p.1 = some p.2) : KeqHits A s k2 k1 true := by
  induction h1 with
  | nil => exact .nil
  | @cons k c t kvs d h ih =>
    obtain ⟨u, hu⟩ := dv_look h2 (ha (k, c) (List.mem_cons_self ..))
    have e := SeqAt.EqAt.int_int (A := A) (s := s) c t c u
    rw [show (c == c) = true by simp] at e
    have := KeqHits.hit hu e (ih fun p hp => ha p (List.mem_cons_of_mem _ hp))
    simpa using this
theorem pairs_any {prog prog' : Program} {w w' : World} : ∀ {es : List DictEntry} {kvs : List (Int × Value)}, Pairs (PySem.intKind prog w) es kvs → Pairs (PySem.intKind prog' w') es kvs
  | _, _, .nil => .nil
  | _, _, .cons h1 h2 h3 => .cons h1 h2 (pairs_any h3)
theorem dict_any {prog prog' : Program} {w w' : World} {o : Obj} {kvs : List (Int × Value)} (h : o.IsDictOf (PySem.intKind prog w) kvs) : o.IsDictOf (PySem.intKind prog' w') kvs := by
  obtain ⟨es, ep, h1, h2, h3, h4, h5⟩ := h
  exact ⟨es, ep, h1, h2, fun e he => by obtain ⟨k, a, b⟩ := h3 e he; exact ⟨k, a, b⟩, pairs_any h4, h5⟩
theorem okS_is {q : List Int} (h : okS q = true) : (heardS (natsL q)).c0 = cnt3 q 0 ∧ (heardS (natsL q)).c1 = cnt3 q 1 ∧ (heardS (natsL q)).c2 = cnt3 q 2 ∧ (heardS (natsL q)).s = q.sum ∧ (heardS (natsL q)).d.length = (dueD q).length ∧ ∀ p ∈ (heardS (natsL q)).d, look (dueD q) p.1 = some p.2 := by
  unfold okS at h
  simp only [Bool.and_eq_true, beq_iff_eq, List.all_eq_true] at h
  obtain ⟨⟨⟨⟨⟨h0, h1⟩, h2⟩, h3⟩, h4⟩, h5⟩ := h
  exact ⟨h0, h1, h2, h3, h4, h5⟩
theorem stepsL_at {q : List Int} {j : Nat} (h : j < q.length) : (stepsL q)[j]? = some (q[j] - (q ++ [0]).getD (j + 1) 0) := by
  unfold stepsL
  rw [List.getElem?_map, List.getElem?_range h]
  simp [List.getD, List.getElem?_eq_getElem h]
theorem next_at {vs : List Value} {q : List Int} {t : Tok} {j : Nat} (hq : IntsAre vs q) (h : j < q.length) : ∃ u, (vs ++ [Value.int 0 t])[j + 1]? = some (.int ((q ++ [0]).getD (j + 1) 0) u) := by
  have := IntsAre.append hq (.cons 0 t .nil)
  refine this.get (j + 1) _ ?_
  have hl : j + 1 < (q ++ [0]).length := by simp; omega
  rw [List.getElem?_eq_getElem hl, List.getD, List.getElem?_eq_getElem hl]
  rfl
theorem snd_lo {q : List Int} {M : Int} (h1 : ∀ a ∈ stepsL q, a ≤ M) (h : M < 3) : sndS q = 1 := by
  unfold sndS
  rw [if_pos (List.all_eq_true.mpr fun a ha => by have := h1 a ha; simp; omega)]
theorem snd_hi {q : List Int} {M : Int} (h1 : M ∈ stepsL q) (h : ¬ M < 3) : sndS q = 0 := by
  unfold sndS
  rw [if_neg (fun hh => h (by simpa using List.all_eq_true.mp hh M h1))]
noncomputable def IfPost (h₀ : Heap) (L : Addr) (m : Str → Option Value) (news : List (Addr × Obj)) (s : Shared) (z : Int) (v : Value) (s' : Shared) : Prop := ∃ t h' tk', v = .int z t ∧ s' = { s with heap := h', toks := tk' } ∧ Fr h₀ L h' m ∧ News h₀ L h' news
theorem IfPost.of {h₀ : Heap} {L : Addr} {m : Str → Option Value} {news : List (Addr × Obj)} {s : Shared} {z z' : Int} {t : Tok} {h' : Heap} {tk' : Nat} (e : z' = z) (F : Fr h₀ L h' m) (N : News h₀ L h' news) : IfPost h₀ L m news s z (.int z' t) { s with heap := h', toks := tk' } := by
  subst e
  exact ⟨t, h', tk', rfl, rfl, F, N⟩
theorem if_cut {prog : Program} {w : World} {A : Around} {E : Value → Shared → Prop} {s : Shared} {h₀ : Heap} {L : Addr} {m : Str → Option Value} {news : List (Addr × Obj)} {e : Sem Value} {Q : Value → Shared → Prop} (z : Int) (_F : Fr h₀ L s.heap m) (_N : News h₀ L s.heap news)
    (h : wpAny (model prog w) A e (IfPost h₀ L m news s z) E s) (k : ∀ t h' tk', Fr h₀ L h' m → News h₀ L h' news → Q (.int z t) { s with heap := h', toks := tk' }) : wpAny (model prog w) A e Q E s :=
  wpAny_mono h (fun v s' r => by obtain ⟨t, h', tk', rfl, rfl, F', N'⟩ := r; exact k t h' tk' F' N') fun _ _ e => e
theorem ne_entries {w : World} {A : Around} {E : Value → Shared → Prop} {s : Shared} {h₀ : Heap} {L : Addr} {news : List (Addr × Obj)} {T1 T2 D1 D2 : Addr} {o1 o2 : Obj} {k1 k2 : List (Int × Value)} {d1 d2 : List (Int × Int)} {a0 a1 a2 a3 b0 b1 b2 b3 : Int} {u0 u1 u2 u3 v0 v1 v2 v3 : Tok} {Q : Value → Shared → Prop}
    (N : News h₀ L s.heap news) (h1 : (T1, ({ cls := .type "tuple", data := .seq #[.int a0 u0, .int a1 u1, .int a2 u2, .int a3 u3, .ref D1] } : Obj)) ∈ news) (h2 : (T2, ({ cls := .type "tuple", data := .seq #[.int b0 v0, .int b1 v1, .int b2 v2, .int b3 v3, .ref D2] } : Obj)) ∈ news)
    (g1 : (D1, o1) ∈ news) (g2 : (D2, o2) ∈ news) (l1 : (D1 == sysModules) = false) (l2 : (D2 == sysModules) = false) (i1 : o1.IsDictOf (PySem.intKind Challenge.rw_pg0093_01.row.prog w) k1) (i2 : o2.IsDictOf (PySem.intKind Challenge.rw_pg0093_01.row.prog w) k2) (v1' : DV k1 d1) (v2' : DV k2 d2)
    (e0 : a0 = b0) (e1 : a1 = b1) (e2 : a2 = b2) (e3 : a3 = b3) (el : d1.length = d2.length) (ea : ∀ p ∈ d1, look d2 p.1 = some p.2) (hu : A.units < cLine) (hu1 : A.in1.units < cLine) (h : Q (.bool false) s) :
    wpAny (model Challenge.rw_pg0093_01.row.prog w) A (compareOp .NotEq (.ref T1) (.ref T2)) Q E s := by
  subst e0 e1 e2 e3
  have t1 : s.heap.IsTuple T1 #[.int a0 u0, .int a1 u1, .int a2 u2, .int a3 u3, .ref D1] := ⟨_, (N _ h1).1, rfl, 0, rfl⟩
  have t2 : s.heap.IsTuple T2 #[.int a0 v0, .int a1 v1, .int a2 v2, .int a3 v3, .ref D2] := ⟨_, (N _ h2).1, rfl, 0, rfl⟩
  have hd : SeqAt.EqAt A.in1 s (.ref D1) (.ref D2) true := by
    by_cases hne : D1 = D2
    · subst hne; exact SeqAt.EqAt.same _
    refine SeqAt.EqAt.of_refs hne fun prog' w' E' Q' hq => ?_
    have x1 : s.heap.DictOf (PySem.intKind prog' w') D1 k1 := Heap.dictOf_iff.mpr ⟨o1, (N _ g1).1, dict_any i1⟩
    have x2 : s.heap.DictOf (PySem.intKind prog' w') D2 k2 := Heap.dictOf_iff.mpr ⟨o2, (N _ g2).1, dict_any i2⟩
    refine keq_eq (r := true) l1 l2 x1 x2 hu1 (fun _ => dv_hits v2' v1' ea) ?_
    rw [show (k1.length == k2.length) = true by rw [dv_len v1', dv_len v2', el]; simp]
    exact hq
  have hi : ∀ (a : Int) (t u : Tok), SeqAt.EqAt A.in1 s (.int a t) (.int a u) true := fun a t u => by
    have := SeqAt.EqAt.int_int (A := A.in1) (s := s) a t a u
    rwa [show (a == a) = true by simp] at this
  have := SeqAt.RcNeAt.tuples (e := fun _ => true) t1 t2 hu (fun j j1 j2 => by
    have hj : j < 5 := j1
    match j, hj with
    | 0, _ => exact hi _ _ _
    | 1, _ => exact hi _ _ _
    | 2, _ => exact hi _ _ _
    | 3, _ => exact hi _ _ _
    | 4, _ => exact hd)
  exact this Challenge.rw_pg0093_01.row.prog w E Q h
/-- the book's pairs lie in the ledger -/
inductive BV (ps : List (Addr × Obj)) : List (Int × Value) → List (Int × Int × Int) → Prop
  | nil : BV ps [] []
  | cons {k x y : Int} {q : Addr} {o : Obj} {kvs : List (Int × Value)} {b : List (Int × Int × Int)} : (q, o) ∈ ps → IsPairO o x y → BV ps kvs b → BV ps ((k, .ref q) :: kvs) ((k, x, y) :: b)
theorem BV.mono {ps ps' : List (Addr × Obj)} (hs : ∀ p ∈ ps, p ∈ ps') {kvs : List (Int × Value)} {b : List (Int × Int × Int)} (h : BV ps kvs b) : BV ps' kvs b := by
  induction h with
  | nil => exact .nil
  | cons h1 h2 _ ih => exact .cons (hs _ h1) h2 ih
theorem BV.pairs {ps : List (Addr × Obj)} {kvs : List (Int × Value)} {b : List (Int × Int × Int)} (h : BV ps kvs b) : ∀ p ∈ kvs, ∃ q o x y, p.2 = .ref q ∧ (q, o) ∈ ps ∧ IsPairO o x y := by
  induction h with
  | nil => intro p hp; cases hp
  | cons h1 h2 _ ih =>
    intro p hp
    rcases List.mem_cons.mp hp with rfl | hp
    · exact ⟨_, _, _, _, rfl, h1, h2⟩
    · exact ih p hp
theorem BV.len {ps : List (Addr × Obj)} {kvs : List (Int × Value)} {b : List (Int × Int × Int)} (h : BV ps kvs b) : kvs.length = b.length := by
  induction h with
  | nil => rfl
  | cons _ _ _ ih => simp [ih]
theorem BV.any {ps : List (Addr × Obj)} {kvs : List (Int × Value)} {b : List (Int × Int × Int)} (h : BV ps kvs b) (k : Int) : kvs.any (fun p => p.1 = k) = b.any (fun p => p.1 = k) := by
  induction h with
  | nil => rfl
  | cons _ _ _ ih => simp only [List.any_cons, ih]
theorem BV.snoc {ps : List (Addr × Obj)} {kvs : List (Int × Value)} {b : List (Int × Int × Int)} {k x y : Int} {q : Addr} {o : Obj} (h : BV ps kvs b) (hq : (q, o) ∈ ps) (ho : IsPairO o x y) : BV ps (kvs ++ [(k, .ref q)]) (b ++ [(k, x, y)]) := by
  induction h with
  | nil => exact .cons hq ho .nil
  | cons h1 h2 _ ih => exact .cons h1 h2 ih
theorem BV.swap {ps : List (Addr × Obj)} {kvs : List (Int × Value)} {b : List (Int × Int × Int)} {k x y : Int} {q : Addr} {o : Obj} {f : Int × Int × Int → Int × Int × Int} (h : BV ps kvs b) (hq : (q, o) ∈ ps) (ho : IsPairO o x y) (hf : ∀ p ∈ b, p.1 = k → f p = (k, x, y)) :
    BV ps (kvs.map fun p => if p.1 = k then (p.1, .ref q) else p) (b.map fun p => if p.1 = k then f p else p) := by
  induction h with
  | nil => exact .nil
  | @cons k' x' y' q' o' kvs b h1 h2 _ ih =>
    have ih' := ih fun p hp => hf p (List.mem_cons_of_mem _ hp)
    simp only [List.map_cons]
    by_cases e : k' = k
    · rw [if_pos e, if_pos e, hf _ (List.mem_cons_self ..) e, e]
      exact .cons hq ho ih'
    · rw [if_neg e, if_neg e]
      exact .cons h1 h2 ih'
theorem pair_inj {o : Obj} {x y x' y' : Int} (h : IsPairO o x y) (h' : IsPairO o x' y') : x = x' ∧ y = y' := by
  obtain ⟨_, t, u, n, e⟩ := h
  obtain ⟨_, t', u', n', e'⟩ := h'
  rw [e] at e'
  simp at e'
  exact ⟨e'.1.1.1, e'.1.2.1⟩
theorem BV.stored {h₀ hp : Heap} {L : Addr} {ps news : List (Addr × Obj)} (N : News h₀ L hp news) (hsub : ∀ p ∈ ps, p ∈ news) {kvs : List (Int × Value)} {b : List (Int × Int × Int)} {k x y x' y' : Int} {q : Addr} {oq : Obj} (h : BV ps kvs b) (hn : (kvs.map (·.1)).Nodup) (hq : IsPairO oq x' y')
    (hv : match valueAt kvs k with | none => x' = x ∧ y' = y | some z => ∃ q0 o0 x0 y0, z = .ref q0 ∧ (q0, o0) ∈ news ∧ IsPairO o0 x0 y0 ∧ x' = x + x0 ∧ y' = y + y0) :
    BV ((q, oq) :: ps) (PySem.stored kvs k (.ref q)) (addB b k x y) := by
  have hm : BV ((q, oq) :: ps) kvs b := h.mono fun p hp => List.mem_cons_of_mem _ hp
  unfold PySem.stored addB
  rw [h.any k]
  cases hva : valueAt kvs k with
  | none =>
    rw [hva] at hv
    obtain ⟨rfl, rfl⟩ := hv
    have : b.any (fun p => p.1 = k) = false := by
      rw [← h.any k]
      unfold valueAt at hva
      rw [Option.map_eq_none_iff, List.find?_eq_none] at hva
      rw [List.any_eq_false]
      exact hva
    rw [this]
    exact hm.snoc (.head _) hq
  | some z =>
    rw [hva] at hv
    obtain ⟨q0, o0, x0, y0, rfl, hq0, hp0, rfl, rfl⟩ := hv
    have hany : b.any (fun p => p.1 = k) = true := by
      rw [← h.any k]
      unfold valueAt at hva
      obtain ⟨p, hp, _⟩ := Option.map_eq_some_iff.mp hva
      rw [List.any_eq_true]
      exact ⟨p, List.mem_of_find?_eq_some hp, by simpa using List.find?_some hp⟩
    rw [hany]
    have key : ∀ p ∈ b, p.1 = k → p.2.1 = x0 ∧ p.2.2 = y0 := by
      clear hm hany
      induction h with
      | nil => intro p hp; cases hp
      | @cons k' xb yb qb ob kvs b h1 h2 h3 ih =>
        intro p hp e
        simp only [List.map_cons, List.nodup_cons] at hn
        have hkeys : ∀ p ∈ b, p.1 ∈ kvs.map (·.1) := by
          intro p hp
          have := h3.any p.1
          rw [List.any_eq_true.mpr ⟨p, hp, by simp⟩, List.any_eq_true] at this
          obtain ⟨r, hr, er⟩ := this
          exact List.mem_map.mpr ⟨r, hr, by simpa using er⟩
        rcases List.mem_cons.mp hp with rfl | hp
        · dsimp only at e
          subst e
          simp [valueAt] at hva
          subst hva
          have g1 := (N _ (hsub _ h1)).1
          have g2 := (N _ hq0).1
          dsimp only at g1 g2
          rw [g1] at g2
          cases g2
          exact pair_inj h2 hp0
        · have hne : k' ≠ k := fun e2 => hn.1 (by rw [e2, ← e]; exact hkeys p hp)
          refine ih hn.2 ?_ p hp e
          simpa [valueAt, hne] using hva
    refine hm.swap (f := fun p => (p.1, x + p.2.1, y + p.2.2)) (.head _) hq fun p hp e => ?_
    obtain ⟨a1, a2⟩ := key p hp e
    rw [e, a1, a2]
end Mine
end
-- U6
section
open PySem PySem.W PyProof.Rows
namespace Mine
theorem law_all {n : Nat} (h : n = 5 ∨ n = 6 ∨ n = 7) : lawS n = true ∧ (pn n n n).length ≤ 50 := by
  rcases h with rfl | rfl | rfl
  · exact ⟨law5, by decide +kernel⟩
  · exact ⟨law6, by decide +kernel⟩
  · exact ⟨law7, by decide +kernel⟩
theorem lawS_at {n : Nat} (h : lawS n = true) {q : List Int} (hq : q ∈ pn n n n) : okS q = true ∧ (∀ x ∈ q, 1 ≤ x ∧ x ≤ 7) ∧ 1 ≤ q.length := by
  unfold lawS at h
  rw [Bool.and_eq_true] at h
  have := List.all_eq_true.mp h.1 q hq
  simp only [Bool.and_eq_true, List.all_eq_true, decide_eq_true_eq] at this
  obtain ⟨⟨⟨h1, h2⟩, _⟩, h4⟩ := this
  refine ⟨h1, h2, ?_⟩
  cases q with
  | nil => simp at h4
  | cons x q => simp
theorem lawS_end {n : Nat} (h : lawS n = true) : ∀ p ∈ bookS (pn n n n), p.2.1 = p.2.2 := fun p hp => by
  unfold lawS at h
  rw [Bool.and_eq_true] at h
  simpa using List.all_eq_true.mp h.2 p hp
theorem bookS_succ {qs : List (List Int)} {i : Nat} {q : List Int} (h : qs[i]? = some q) : bookS (qs.take (i + 1)) = addB (bookS (qs.take i)) (keyS q) (fstS q) (sndS q) := by
  unfold bookS
  rw [List.take_add_one, h, Option.toList_some, List.foldl_append]
  rfl
theorem size_is (z : Int) : ∃ n : Nat, 5 + z.fmod 3 = (n : Int) ∧ (n = 5 ∨ n = 6 ∨ n = 7) := by
  rw [Int.fmod_eq_emod_of_nonneg _ (by decide)]
  exact ⟨(5 + z % 3).toNat, by omega, by omega⟩
theorem BV.at {ps : List (Addr × Obj)} {kvs : List (Int × Value)} {b : List (Int × Int × Int)} (h : BV ps kvs b) : ∀ (i : Nat) (k : Int) (v : Value), kvs[i]? = some (k, v) → ∃ q o x y, v = .ref q ∧ (q, o) ∈ ps ∧ IsPairO o x y ∧ (k, x, y) ∈ b := by
  induction h with
  | nil => intro i k v h; simp at h
  | @cons k' x y q o kvs b h1 h2 h3 ih =>
    intro i k v h
    match i, h with
    | 0, h =>
      simp only [List.getElem?_cons_zero, Option.some.injEq, Prod.mk.injEq] at h
      obtain ⟨rfl, rfl⟩ := h
      exact ⟨q, o, x, y, rfl, h1, h2, .head _⟩
    | i + 1, h =>
      obtain ⟨q', o', x', y', a1, a2, a3, a4⟩ := ih i k v (by simpa using h)
      exact ⟨q', o', x', y', a1, a2, a3, .tail _ a4⟩
end Mine
end
-- LT
section
open PySem PySem.W PySem.Calls PyProof.Rows
set_option maxRecDepth 100000
set_option maxHeartbeats 8000000
namespace Mine
theorem strs_snoc {vs : List Value} {ys : List Str} {y : Str} {t : Tok} (h : StrsAre vs ys) : StrsAre (vs ++ [.str y t]) (ys ++ [y]) := by
  induction h with
  | nil => exact .cons _ _ .nil
  | cons y' t' _ ih => exact .cons _ _ ih
/-- the law's statements and its names -/
noncomputable def lawB : List Stmt × Scope := match Challenge.pw_pg0093_01.main.body.getLast? with | some (.FunctionDef _ _ b _ _ _ sc _ _ _) => (b, sc) | _ => ([], default)
noncomputable abbrev lawE (L fa : Addr) (cd : Value) : Env := envOfC (Str.ofString "law") lawB.2 L fa cd
noncomputable def lawF : Expr × List Stmt := match (lawB.1[8]? : Option Stmt) with | some (Stmt.For t _ b _ _) => (t, b) | _ => (.Name (Str.ofString "") ⟨0, 0, 0, 0⟩, [])
structure LS where
  c4 : Obj
  c5 : Obj
  oP : Obj
  d : Addr
  od : Obj
  kt : List (Int × Value)
  b : List (Int × Int × Int)
  ps : List (Addr × Obj)
  vm : Option Value
  ve : Option Value
  vs : Option Value
  vp : Option Value
noncomputable abbrev LS.vals (a : LS) : List (Str × Option Value) := [(Str.ofString "book", some (.ref a.d)), (Str.ofString "mail", a.vm), (Str.ofString "entry", a.ve), (Str.ofString "steps", a.vs), (Str.ofString "pair", a.vp)]
local macro_rules | `(tactic| walk_at "eval ListComp") => `(tactic| (refine hold ?_))
local macro_rules | `(tactic| walk_at "exec Assign cons ListComp") => `(tactic| ((with_reducible show wpAny _ _ (exec (Stmt.Assign [Expr.Name (Str.ofString "steps") _] _ _) _) _ _ _); refine hold ?_))
local macro_rules | `(tactic| walk_at "subscriptTail Name Name ref int") => `(tactic| (refine hold ?_))
local macro_rules | `(tactic| walk_at "subscriptTail BinOp BinOp ref int") => `(tactic| (refine hold ?_))
local macro_rules | `(tactic| walk_at "compareOp NotEq ref ref") => `(tactic| (refine hold ?_))
local macro_rules | `(tactic| walk_at "binaryOp Add ref ref") => `(tactic| (refine hold ?_))
local macro_rules | `(tactic| walk_at "eval IfExp") => `(tactic| ((fail_if_success (with_reducible show wpAny _ _ _ (IfPost _ _ _ _ _ _) _ _)); refine hold ?_))
local macro_rules | `(tactic| walk_at "eval Dict") => `(tactic| (refine hold ?_))
local macro_rules | `(tactic| walk_at "CompSrc") => `(tactic| (refine hold ?_))
local macro_rules | `(tactic| walk_at "call ref") => `(tactic| (refine hold ?_))
local macro_rules | `(tactic| walk_at "call builtin:str.join") => `(tactic| (refine hold ?_))
local macro_rules | `(tactic| walk_at "binaryOp Add str str") => `(tactic| (refine hold ?_))
local macro_rules | `(tactic| walk_at "binaryOp Mult str int") => `(tactic| (refine hold ?_))
local macro_rules | `(tactic| walk_at "storeName") => `(tactic| ((with_reducible show wpAny _ _ (storeName _ (Str.ofString "parts") _) _ _ _); refine hold ?_))
local macro_rules | `(tactic| walk_at "storeName") => `(tactic| ((with_reducible show wpAny _ _ (storeName _ (Str.ofString "rows") _) _ _ _); refine hold ?_))
local macro_rules | `(tactic| walk_at "eval Name") => `(tactic| ((with_reducible show wpAny _ _ (eval (Expr.Name _ _) (compEnvC _ _ _ _)) _ _ _); k_dflt (first | refine ldB_C (by k_asm) (by k_asm) (by k_asm) (by k_is) (by boot_by_name) (by decide) ?_ | refine ldG_C (by k_asm) (by k_asm) (by k_asm) (by k_is) ?_)))
section
variable {w : World} {mg mb : Str → Option Value} {fa : Addr} {cd : Value} {h₀ : Heap} {L : Addr} {s : Shared} {Q : Flow → Shared → Prop} {E : Value → Shared → Prop}
theorem law_turn {I D7 r bm : Addr} {oI p1 p2 p3 ob : Obj} {ys7 vs : List Value} {nn n : Nat} {q : List Int} {sq : List Int} {t8 tn tb : Tok} {v0 : Option Value} {mz : Str → Option Value} {a : LS} {R : List (Addr × Obj)} (B : Below callerA h₀ [] h₀)
    (F : Fr h₀ L s.heap (upd (fun y => if y = Str.ofString "book" then v0 else if y = Str.ofString "bare" then some (.str (bareT (stemT sq) n) tb) else mz y) a.vals))
    (N : News h₀ L s.heap ((I, oI) :: (L + 5, a.c4) :: (L + 6, a.c5) :: (54, a.oP) :: (a.d, a.od) :: (L + 1 + 1, p1) :: (L + 1 + 1 + 1, p2) :: (L + 1 + 1 + 1 + 1, p3) :: (D7, LCg.lst ys7) :: (r, listObj vs nn) :: (a.ps ++ R)))
    (T : TopRead hd.view_39 (looseW hd.view_39 [Str.ofString "_twin_re_1", Str.ofString "_twin_re_2"]) mg mb h₀)
    (M : BMod h₀ mainGlobals mg bm ob) (hG : AllBare s.gens) (hP : TabOk a.oP)
    (hI5 : I ≠ L + 5) (hI6 : I ≠ L + 6) (h5 : Off (L + 5) ((L + 6, a.c5) :: (54, a.oP) :: (a.d, a.od) :: (L + 1 + 1, p1) :: (L + 1 + 1 + 1, p2) :: (L + 1 + 1 + 1 + 1, p3) :: (D7, LCg.lst ys7) :: (r, listObj vs nn) :: (a.ps ++ R)))
    (h6 : Off (L + 6) ((54, a.oP) :: (a.d, a.od) :: (L + 1 + 1, p1) :: (L + 1 + 1 + 1, p2) :: (L + 1 + 1 + 1 + 1, p3) :: (D7, LCg.lst ys7) :: (r, listObj vs nn) :: (a.ps ++ R)))
    (hc4 : ∃ v, a.c4.data = .cell v) (hc5 : ∃ v, a.c5.data = .cell v) (hd1 : p1.data = .cell (some (.str (stemT sq) t8))) (hd2 : p2.data = .cell (some (.int n tn))) (hd3 : p3.data = .cell (some (.ref D7))) (hn : n < 1000000)
    (h7 : ys7.length = 7 ∧ ∀ y ∈ ys7, ∃ e t, y = .str e t ∧ EndOk e.cps.toList) (hq : IntsAre vs q) (hql : 1 ≤ q.length ∧ q.length ≤ 7) (hpos : ∀ x ∈ q, 1 ≤ x ∧ x ≤ 7) (hok : okS q = true)
    (hod : a.od.IsDictOf (PySem.intKind Challenge.rw_pg0093_01.row.prog w) a.kt) (lod : (a.d == sysModules) = false) (hbv : BV a.ps a.kt a.b) (hktl : a.kt.length ≤ 50) (hcI : oI.cls = .type "list_iterator")
    (hI54 : I ≠ 54) (hL54 : L + 5 ≠ 54 ∧ L + 6 ≠ 54) (h54 : Off 54 ((a.d, a.od) :: (L + 1 + 1, p1) :: (L + 1 + 1 + 1, p2) :: (L + 1 + 1 + 1 + 1, p3) :: (D7, LCg.lst ys7) :: (r, listObj vs nn) :: (a.ps ++ R)))
    (hret : ∀ (a' : LS) (s' : Shared) m₂, s'.os = s.os → AllBare s'.gens → Fr h₀ L s'.heap m₂ → AllVals m₂ a'.vals → (∀ z, (∀ p ∈ a'.vals, z ≠ p.1) → m₂ z = (fun y => if y = Str.ofString "book" then v0 else if y = Str.ofString "bare" then some (.str (bareT (stemT sq) n) tb) else mz y) z) →
      News h₀ L s'.heap ((I, oI) :: (L + 5, a'.c4) :: (L + 6, a'.c5) :: (54, a'.oP) :: (a'.d, a'.od) :: (L + 1 + 1, p1) :: (L + 1 + 1 + 1, p2) :: (L + 1 + 1 + 1 + 1, p3) :: (D7, LCg.lst ys7) :: (r, listObj vs nn) :: (a'.ps ++ R)) → TabOk a'.oP → (∃ v, a'.c4.data = .cell v) → (∃ v, a'.c5.data = .cell v) →
      a'.od.IsDictOf (PySem.intKind Challenge.rw_pg0093_01.row.prog w) a'.kt → (a'.d == sysModules) = false → BV a'.ps a'.kt a'.b → a'.b = addB a.b (keyS q) (fstS q) (sndS q) → a'.kt.length ≤ a.kt.length + 1 →
      (∀ X, X = I ∨ X = L + 5 ∨ X = L + 6 ∨ X = 54 → a'.d ≠ X ∧ ∀ p ∈ a'.ps, p.1 = X → p ∈ a.ps) → Q .next s') :
    (hd.heap_39 w.params).In h₀ → wpAny (model Challenge.rw_pg0093_01.row.prog w) (callerA.deeper (lawE L fa cd)) (assign lawF.1 (lawE L fa cd) (.ref r)) (fun _ s₃ => wpAny (model Challenge.rw_pg0093_01.row.prog w) (callerA.deeper (lawE L fa cd)) (execs lawF.2 (lawE L fa cd)) Q E s₃) E s := by
  k_fill
  intro X
  have e1 : lawB = lawB := rfl
  conv at e1 => rhs; whnf
  have e2 : lawF = lawF := rfl
  conv at e2 => rhs; whnf
  unfold lawE
  rw [e1, e2]
  clear e1 e2
  obtain ⟨c4, c5, oP, d, od, kt, b, ps, vm, ve, vst, vp⟩ := a
  dsimp only [LS.vals] at F N hP h5 h6 hc4 hc5 hod lod hbv hktl h54 hret ⊢
  obtain ⟨w4, hc4⟩ := hc4
  obtain ⟨w5, hc5⟩ := hc5
  k_steps
  refine unhold ?_
  have o5 : ∀ p ∈ (54, oP) :: (d, od) :: (L + 1 + 1, p1) :: (L + 1 + 1 + 1, p2) :: (L + 1 + 1 + 1 + 1, p3) :: (D7, LCg.lst ys7) :: (r, listObj vs nn) :: (ps ++ R), p.1 ≠ L + 5 := fun p hp => h5 p (.tail _ hp)
  rename Fr _ _ _ _ => F1
  rename News _ _ _ _ => N1
  with_unfolding_all refine' storeX_C F1 N1 rfl (UpdF.tail hI5 (UpdF.head h5)) hc4 ?_
  intro h' c4' F2 N2 hc4'
  clear F1 N1
  try dsimp only at N2
  try dsimp only
  k_steps
  refine unhold ?_
  rename Fr _ _ _ _ => F1
  rename News _ _ _ _ => N1
  with_unfolding_all refine' LCg.ListComp_U (F₀ := F1) ?cl1 ?hc1 ?hk1 ?hn1 ?hx1 ?_
  case cl1 => with_unfolding_all rfl
  case hc1 => decide
  case hk1 => rfl
  case hn1 => decide
  case hx1 => rfl
  k_steps
  refine unhold ?_
  rename Fr _ _ _ _ => F2
  rename News _ _ _ _ => N2
  have hvl := hq.length
  have hb := bare_ok sq n hn
  have hsl := stem_len sq
  refine LCg.CompSrc.ledger rfl F2 N2 (.tail _ (.tail _ (.tail _ (.tail _ (.tail _ (.tail _ (.tail _ (.tail _ (.tail _ (.head _)))))))))) (by rw [List.size_toArray, sizeLine_eq]; omega) ?_
  intro g
  refine comp_upd (σ := List Value) (fun _ => _) (fun ys => ys) (fun i ys => StrsAre ys ((q.take i).map fun x => rowT x.toNat (bareT (stemT sq) n))) ?_ ?_ _ 0 [] (Nat.zero_add _) .nil
  · intro j v ys I1 oI1 C1 oC1 D1 m₂ h1 tk1 E' hj hv hInv hC hx F3 N3 ho hne
    obtain ⟨z, t, rfl, hz⟩ := hq.at j v (by simpa using hv)
    have hz7 := hpos z (List.mem_of_getElem? hz)
    obtain ⟨zn, rfl⟩ : ∃ zn : Nat, z = (zn : Int) := ⟨z.toNat, by omega⟩
    have hdot : (Str.ofString ".").length = 1 := by decide +kernel
    k_steps
    refine unhold ?_
    refine KXi.mul hdot (by decide) (by omega) (by omega) fun t4 k4 _ hm => ?_
    have hml := hm (by omega)
    k_steps
    refine unhold ?_
    refine add_str (fun t5 k5 => ?_) (by rw [sizeLine_eq]; omega)
    rw [dots_add]
    k_steps
    refine unhold ?_
    rename Fr _ _ _ _ => F4
    rename News _ _ _ _ => N4
    with_unfolding_all refine' fss_ct B F4 N4 T rfl ?hdd ?huu (.head _) (row_ne_tilde _ _) (row_ok _ _) ?hl (Int.natCast_nonneg _) ?h1 ?_ X
    case hdd => exact Nat.le_of_ble_eq_true rfl
    case huu => exact Nat.le_of_ble_eq_true rfl
    case hl => (rw [rowT_length]; omega)
    case h1 => omega
    intro tb5 h5' tk5 F5 N5
    clear F4 N4
    refine ⟨_, _, _, rfl, F5, nd N5, ho, .inr ⟨_, .tail _ (.tail _ (.tail _ (.tail _ (.tail _ (.tail _ (.tail _ (.tail _ (.tail _ (.head _))))))))), rfl, _, rfl⟩, rfl, ?_⟩
    rw [List.take_add_one, hz, List.map_append, bare_row]
    exact strs_snoc hInv
  · intro ys hInv D h tk F3 N3 off
    rw [List.size_toArray, hvl, List.take_length] at hInv
    clear F2 N2
    k_steps
    refine unhold ?_
    rename Fr _ _ _ _ => F5
    rename News _ _ _ _ => N5
    have h56 : L + 5 ≠ L + 6 := by simp
    with_unfolding_all refine' storeX_C F5 N5 rfl (UpdF.tail (Ne.symm off.2.2.1) (UpdF.tail hI6 (UpdF.tail h56 (UpdF.head h6)))) hc5 ?_
    intro h6' c5' F6 N6 hc5'
    clear F5 N5
    try dsimp only at N6
    try dsimp only
    have hyl := hInv.length
    rw [List.length_map] at hyl
    k_steps
    refine unhold ?_
    rename Fr _ _ _ _ => F7
    rename News _ _ _ _ => N7
    with_unfolding_all refine' LCg.ListComp_U (F₀ := F7) ?cl1 ?hc1 ?hk1 ?hn1 ?hx1 ?_
    case cl1 => with_unfolding_all rfl
    case hc1 => decide
    case hk1 => rfl
    case hn1 => decide
    case hx1 => rfl
    k_steps
    rename News _ _ _ _ => N8
    refine len_led N8 (.head _) (by omega) ?_
    k_steps
    refine unhold ?_
    rename IsRange _ _ _ _ _ _ _ _ => hr
    rename Fr _ _ _ _ => F9
    rename News _ _ _ _ => N9
    obtain ⟨es, hes, hee⟩ := ends_of h7.2
    have hel := hes.length
    have hqe : q.length ≤ es.length := by omega
    refine LCg.CompSrc.range (n := ys.length) rfl F9 N9 hr (range0_ok _ (by omega)).1 (range0_ok _ (by omega)).2 (by rw [sizeLine_eq]; omega) ?_
    intro g9
    refine comp_upd (σ := List Value) (fun _ => _) (fun zs => zs) (fun i zs => StrsAre zs (((pairsL q es).take i).map fun p => rowT p.1 (bareT (stemT sq) n) ++ p.2)) ?_ ?_ _ 0 [] (Nat.zero_add _) .nil
    · intro j v zs I1 oI1 C1 oC1 D1 m₂ h1 tk1 E' hj hv hInv9 hC hx F3 N3 ho hne
      obtain ⟨tj, rfl⟩ := hv
      have hj2 : j < q.length := by omega
      have hqj : q[j]? = some q[j] := List.getElem?_eq_getElem hj2
      have hej : es[j]? = some es[j] := List.getElem?_eq_getElem (by omega)
      obtain ⟨tr, hr1⟩ := hInv.get j _ (by rw [List.getElem?_map, hqj]; rfl)
      obtain ⟨te, he1⟩ := hes.get j _ hej
      have hjn : (0 + (j : Int)).toNat = j := by omega
      k_steps
      refine unhold ?_
      rename News _ _ _ _ => N10
      refine item_led N10 (.tail _ (.tail _ (.tail _ (.head _)))) (by omega) (by omega) (by rw [hjn]; exact hr1) ?_
      k_steps
      refine unhold ?_
      rename News _ _ _ _ => N11
      refine item_led N11 (.tail _ (.tail _ (.tail _ (.tail _ (.tail _ (.tail _ (.tail _ (.tail _ (.tail _ (.tail _ (.tail _ (.tail _ (.head _))))))))))))) (by omega) (by omega) (by rw [hjn]; exact he1) ?_
      k_steps
      refine unhold ?_
      have hl2 := end_len (hee _ (List.mem_of_getElem? hej))
      have hz7 := hpos _ (List.mem_of_getElem? hqj)
      refine add_str (fun t5 k5 => ?_) (by rw [sizeLine_eq, rowT_length]; omega)
      rename Fr _ _ _ _ => F12
      rename News _ _ _ _ => N12
      refine ⟨_, _, _, rfl, F12, N12, ho, trivial, rfl, ?_⟩
      rw [List.take_add_one, pairs_at hqj hej, List.map_append]
      exact strs_snoc hInv9
    · intro zs hInv9 D9 h9 tk9 F10 N10 off9
      have hpl := pairs_len hqe
      have hpm := pairs_mem hpos hee
      rw [List.take_of_length_le (by omega)] at hInv9
      clear F9 N9
      k_steps
      refine unhold ?_
      rename Fr _ _ _ _ => F11
      rename News _ _ _ _ => N11
      refine join_list (isList_led N11 (.head _)) hInv9 (join_small hb.2.2.2.2 (by omega) hpm) fun t9 k9 => ?_
      rw [join_mail]
      have N12 := nd (nd N11)
      clear N11 hInv9 off9 hr
      k_steps
      refine unhold ?_
      rename Fr _ _ _ _ => F13
      rename News _ _ _ _ => N13
      with_unfolding_all refine' heard_ct B F13 N13 T rfl ?hdd ?huu hG hb.1 hb.2.1 hb.2.2.1 hb.2.2.2.1 hb.2.2.2.2 ?hps ?hn1 ?hn7 ?_ X
      case hdd => exact Nat.le_of_ble_eq_true rfl
      case huu => exact Nat.le_of_ble_eq_true rfl
      case hps => omega
      case hn1 => exact fun p hp => (hpm p hp).1
      case hn7 => exact fun p hp => (hpm p hp).2
      intro T1 D2 o1 kvs1 u0 u1 u2 u3 s14 os14 G14 F14 N14 lo1 hdo1 dv1
      rw [pairs_fst hqe] at N14 dv1
      clear F13 N13
      try dsimp only
      k_steps
      refine unhold ?_
      rename Fr _ _ _ _ => F15
      rename News _ _ _ _ => N15
      have N16 := nc N15 (.tail _ (.tail _ (.tail _ (.tail _ (.tail _ (.tail _ (.tail _ (.tail _ (.tail _ (.tail _ (.tail _ (.head _)))))))))))) N15
      with_unfolding_all refine' due_ct B F15 N16 T rfl ?hdd ?huu G14 hq hql.2 hpos ?_ X
      case hdd => exact Nat.le_of_ble_eq_true rfl
      case huu => exact Nat.le_of_ble_eq_true rfl
      intro T2 D3 o3 kvs3 w0 w1 w2 w3 s17 os17 G17 F17 N17 lo3 hdo3 dv3
      clear F15 N15 N16
      try dsimp only
      obtain ⟨k0, k1, k2, k3, kl, ka⟩ := okS_is hok
      k_steps
      refine unhold ?_
      rename Fr _ _ _ _ => F18
      rename News _ _ _ _ => N18
      refine ne_entries N18 (.tail _ (.tail _ (.tail _ (.head _)))) (.head _) (.tail _ (.tail _ (.tail _ (.tail _ (.head _))))) (.tail _ (.head _)) lo1 lo3 hdo1 hdo3 dv1 dv3 k0 k1 k2 k3 kl ka (Nat.le_of_ble_eq_true rfl) (Nat.le_of_ble_eq_true rfl) ?_
      have N19 := nd (nd (nd N18))
      clear N18
      k_steps
      refine unhold ?_
      rename Fr _ _ _ _ => F20
      with_unfolding_all refine' LCg.Assign_ListComp_U (F₀ := F20) ?cl2 ?sw2 ?clos2 ?hc2 ?hk2 ?hn2 ?hx2 ?hy2 ?hp2 ?_
      case cl2 => rfl
      case sw2 => with_unfolding_all rfl
      case clos2 => with_unfolding_all rfl
      case hc2 => decide
      case hk2 => rfl
      case hn2 => decide
      case hx2 => rfl
      case hy2 => rfl
      case hp2 => rfl
      k_steps
      refine unhold ?_
      rename IsRange _ _ _ _ _ _ _ _ => hr
      rename Fr _ _ _ _ => F22
      rename News _ _ _ _ => N22
      refine LCg.CompSrc.range (n := q.length) rfl F22 N22 hr (range0_ok q.length hql.2).1 (range0_ok q.length hql.2).2 (by rw [sizeLine_eq]; omega) ?_
      intro g22
      refine comp_upd (σ := List Value) (fun _ => _) (fun zs => zs) (fun i zs => IntsAre zs ((stepsL q).take i)) ?_ ?_ _ 0 [] (Nat.zero_add _) .nil
      · intro j v zs I1 oI1 C1 oC1 D1 m₂ h1 tk1 E' hj hv hInv9 hC hx F3 N3 ho hne
        obtain ⟨tj, rfl⟩ := hv
        have hj2 : j < q.length := by omega
        have hqj : q[j]? = some q[j] := List.getElem?_eq_getElem hj2
        obtain ⟨tv, hv1⟩ := hq.get j _ hqj
        have hjn : (0 + (j : Int)).toNat = j := by omega
        k_steps
        refine unhold ?_
        rename News _ _ _ _ => N23
        refine item_led N23 (.tail _ (.tail _ (.tail _ (.tail _ (.tail _ (.tail _ (.tail _ (.tail _ (.tail _ (.tail _ (.tail _ (.tail _ (.tail _ (.tail _ (.head _))))))))))))))) (by omega) (by omega) (by rw [hjn]; exact hv1) ?_
        k_steps
        refine unhold ?_
        rename Fr _ _ _ _ => F24
        rename News _ _ _ _ => N24
        refine add_led (vs := vs) (ws := [Value.int 0 _]) F24 N24 (.tail _ (.tail _ (.tail _ (.tail _ (.tail _ (.tail _ (.tail _ (.tail _ (.tail _ (.tail _ (.tail _ (.tail _ (.tail _ (.tail _ (.tail _ (.head _)))))))))))))))) (.head _) (by simp only [List.length_cons, List.length_nil]; omega) fun D4 h4 lt4 F25 N25 => ?_
        clear F24 N24
        k_steps
        rename Fr _ _ _ _ => F27
        rename News _ _ _ _ => N27
        refine ⟨_, _, _, rfl, F27, nd (nd N27), ho, trivial, rfl, ?_⟩
        rw [List.take_add_one, stepsL_at hj2]
        rw [show (0 + (j : Int) + 1).toNat = j + 1 by omega]
        exact IntsAre.append hInv9 (.cons _ _ .nil)
      · intro zs hInv9 D9' h9' tk9' F23 N23 off23
        have hsl2 : (stepsL q).length = q.length := by simp [stepsL]
        rw [List.take_of_length_le (by omega)] at hInv9
        clear F22 N22 hr
        k_steps
        refine unhold ?_
        rename Fr _ _ _ _ => F24
        rename News _ _ _ _ => N24
        refine if_cut (fstS q) F24 N24 ?_ fun t24 h24 tk24 F25 N25 => ?_
        · k_steps
          all_goals (
            rename Fr _ _ _ _ => F25
            rename News _ _ _ _ => N25
            refine IfPost.of ?_ F25 N25
            first | exact (if_pos (k0.symm.trans (by assumption))).symm | exact (if_neg (fun e => absurd (k0.trans e) (by assumption))).symm)
        · clear F24 N24
          k_steps
          refine unhold ?_
          rename Fr _ _ _ _ => F26
          rename News _ _ _ _ => N26
          refine if_cut (sndS q) F26 N26 ?_ fun t26 h26 tk26 F27 N27 => ?_
          · k_steps
            all_goals (
              rename Fr _ _ _ _ => F27
              rename News _ _ _ _ => N27
              refine IfPost.of ?_ F27 N27
              first | exact (snd_lo (by assumption) (by assumption)).symm | exact (snd_hi (by assumption) (by assumption)).symm)
          · clear F26 N26
            k_steps
            refine unhold ?_
            rename Fr _ _ _ _ => F28
            rename News _ _ _ _ => N28
            k_dflt (refine kdn_eval (knd := PySem.intKind _ _) F28 N28 (TopRead.nolimit (by assumption)) rfl rfl (List.cons_ne_nil _ _) (by decide) ?_)
            clear F28 N28
            intro d29 h29 o29 F29 N29 l29 lo29 hd29
            k_lt l29
            k_steps
            refine unhold ?_
            rename Fr _ _ _ _ => F30
            rename News _ _ _ _ => N30
            rename Obj.IsDictOf _ _ (intKeyPairs _) => hd30
            rw [k1, k2] at hd30
            have N31 := nc N30 (.tail _ (.tail _ (.tail _ (.tail _ (.tail _ (.tail _ (.tail _ (.tail _ (.head _))))))))) (nc N30 (.tail _ (.tail _ (.tail _ (.tail _ (.tail _ (.tail _ (.tail _ (.tail _ (.tail _ (.head _)))))))))) (nc N30 (.head _) (nc N30 (.tail _ (.head _)) (nc N30 (.tail _ (.tail _ (.tail _ (.tail _ (.tail _ (.head _)))))) (nc N30 (.tail _ (.tail _ (.tail _ (.tail _ (.tail _ (.tail _ (.head _))))))) (nc N30 (.tail _ (.tail _ (.tail _ (.tail _ (.tail _ (.tail _ (.tail _ (.head _)))))))) (nd (nd (nd (nd (nd (nd (nd (nd (nd (nd N30))))))))))))))))
            have hsub : ∀ p ∈ ps, p ∈ (I, oI) :: (L + 5, c4') :: (L + 6, c5') :: (L + 1 + 1, p1) :: (L + 1 + 1 + 1, p2) :: (L + 1 + 1 + 1 + 1, p3) :: (D7, LCg.lst ys7) :: (r, listObj vs nn) :: (ps ++ R) := fun p hp => .tail _ (.tail _ (.tail _ (.tail _ (.tail _ (.tail _ (.tail _ (.tail _ (List.mem_append_left _ hp))))))))
            have hnd : (kt.map (·.1)).Nodup := by obtain ⟨_, _, _, _, _, _, h5⟩ := hod; exact h5
            with_unfolding_all refine' addP_ct (k := keyS q) (kt := kt) B F30 N31 T M G17 hP rfl ?hdd ?huu hod hd30 lod lo29 ?hlen ?hprs ?h54' ?_ X
            case hdd => exact Nat.le_of_ble_eq_true rfl
            case huu => exact Nat.le_of_ble_eq_true rfl
            case hlen => omega
            case hprs =>
              intro p hp
              obtain ⟨q0, o0, x0, y0, e0, hm0, hp0⟩ := hbv.pairs p hp
              exact ⟨q0, o0, x0, y0, e0, hsub _ hm0, hp0⟩
            case h54' =>
              refine off_cons (h54 _ (.head _)) (off_cons ?_ (off_cons ?_ (off_cons hI54 (off_cons hL54.1 (off_cons hL54.2 fun p hp => h54 p (.tail _ hp))))))
              · show @Ne Nat d29 54
                omega
              · show @Ne Nat _ 54
                omega
            intro D o oP' q' oq x' y' s31 G31 os31 tab31 hp31 F31 N32 lo31 hd31 hm31
            clear F30 N30 N31
            try dsimp only
            k_steps
            rename Fr _ _ _ _ => F40
            rename News _ _ _ _ => N40
            obtain ⟨es9, ep9, hex9, hdt9, hrest9⟩ := id hd31
            obtain ⟨hcq, _, _, _, hdq⟩ := id hp31
            obtain ⟨pt9, ept9, _⟩ := id tab31
            have hcD : o.cls = .type "dict" := hex9.1
            have nDI : D ≠ I := ne_objs N40 (.tail _ (.head _)) (.tail _ (.tail _ (.tail _ (.head _)))) (fun e => by rw [e, hcI] at hcD; exact absurd hcD (by decide))
            have nD5 : D ≠ L + 5 := ne_objs N40 (.tail _ (.head _)) (.tail _ (.tail _ (.tail _ (.tail _ (.head _))))) (fun e => by rw [e, hc4'] at hdt9; cases hdt9)
            have nD6 : D ≠ L + 6 := ne_objs N40 (.tail _ (.head _)) (.tail _ (.tail _ (.tail _ (.tail _ (.tail _ (.head _)))))) (fun e => by rw [e, hc5'] at hdt9; cases hdt9)
            have nDP : D ≠ 54 := ne_objs N40 (.tail _ (.head _)) (.head _) (fun e => by rw [e, ept9] at hdt9; cases hdt9)
            have nqI : q' ≠ I := ne_objs N40 (.tail _ (.tail _ (.head _))) (.tail _ (.tail _ (.tail _ (.head _)))) (fun e => by rw [e, hcI] at hcq; exact absurd hcq (by decide))
            have nq5 : q' ≠ L + 5 := ne_objs N40 (.tail _ (.tail _ (.head _))) (.tail _ (.tail _ (.tail _ (.tail _ (.head _))))) (fun e => by rw [e, hc4'] at hdq; cases hdq)
            have nq6 : q' ≠ L + 6 := ne_objs N40 (.tail _ (.tail _ (.head _))) (.tail _ (.tail _ (.tail _ (.tail _ (.tail _ (.head _)))))) (fun e => by rw [e, hc5'] at hdq; cases hdq)
            have nqP : q' ≠ 54 := ne_objs N40 (.tail _ (.tail _ (.head _))) (.head _) (fun e => by rw [e, ept9] at hdq; cases hdq)
            refine hret ⟨c4', c5', oP', D, o, stored kt (keyS q) (.ref q'), addB b (keyS q) (fstS q) (sndS q), (q', oq) :: ps, _, _, _, _⟩ _ _ (os31.trans (os17.trans os14)) G31 F40 ⟨rfl, rfl, rfl, rfl, rfl, trivial⟩ (fun z hz => ?_) ?_ tab31 ⟨_, hc4'⟩ ⟨_, hc5'⟩ hd31 lo31 ?_ rfl (stored_length_le _ _ _) (fun Y hY => ?_)
            · have z1 := hz _ (.head _)
              have z2 := hz _ (.tail _ (.head _))
              have z3 := hz _ (.tail _ (.tail _ (.head _)))
              have z4 := hz _ (.tail _ (.tail _ (.tail _ (.head _))))
              have z5 := hz _ (.tail _ (.tail _ (.tail _ (.tail _ (.head _)))))
              simp only [upd, if_neg z1, if_neg z2, if_neg z3, if_neg z4, if_neg z5]
            · intro p hp
              refine N40 p ?_
              simp only [List.mem_cons, List.mem_append] at hp ⊢
              rcases hp with h | h | h | h | h | h | h | h | h | h | (h | h) | h <;> simp [h]
            · refine BV.stored N40 (fun p hp => .tail _ (.tail _ (.tail _ (hsub p hp)))) hbv hnd hp31 ?_
              cases hva : valueAt kt (keyS q) with
              | none => rw [hva] at hm31; exact hm31
              | some z =>
                rw [hva] at hm31
                obtain ⟨q0, o0, x0, y0, a1, a2, a3, a4, a5⟩ := hm31
                exact ⟨q0, o0, x0, y0, a1, .tail _ (.tail _ (.tail _ a2)), a3, a4, a5⟩
            · rcases hY with rfl | rfl | rfl | rfl
              · exact ⟨nDI, fun p hp e => (List.mem_cons.mp hp).elim (fun e2 => absurd (by rw [← e, e2]) nqI) id⟩
              · exact ⟨nD5, fun p hp e => (List.mem_cons.mp hp).elim (fun e2 => absurd (by rw [← e, e2]) nq5) id⟩
              · exact ⟨nD6, fun p hp e => (List.mem_cons.mp hp).elim (fun e2 => absurd (by rw [← e, e2]) nq6) id⟩
              · exact ⟨nDP, fun p hp e => (List.mem_cons.mp hp).elim (fun e2 => absurd (by rw [← e, e2]) nqP) id⟩
end
end Mine
end
-- LQ
section
open PySem PySem.W PySem.Calls PyProof.Rows
set_option maxRecDepth 100000
set_option maxHeartbeats 8000000
namespace Mine
noncomputable def lawR : List Stmt := lawB.1.drop 8
local macro_rules | `(tactic| walk_at "call ref") => `(tactic| (refine hold ?_))
local macro_rules | `(tactic| walk_at "exec For Name Call cons nil") => `(tactic| (refine hold ?_))
local macro_rules | `(tactic| walk_at "subscriptTail") => `(tactic| ((with_reducible show wpAny _ _ (subscriptTail _ _ (Value.ref _) (Value.int _ _)) _ _ _); refine hold ?_))
noncomputable def QuietPost (b : Bool) (s₃ : Shared) (ok : Bool) (s₄ : Shared) : Prop := ok = b ∧ Keeps s₃ s₄
local macro_rules | `(tactic| walk_at "eval ListComp") => `(tactic| (refine hold ?_))
theorem rows_off {h₀ h : Heap} {L X : Addr} {oX : Obj} {rs news : List (Addr × Obj)} {ps : List (List Int)} (R : Rows rs ps) (N : News h₀ L h news) (hs : ∀ p ∈ rs, p ∈ news) (hX : (X, oX) ∈ news) (hne : ∀ vs n, oX ≠ listObj vs n) : Off X rs := fun p hp => by
  obtain ⟨i, hi⟩ := List.getElem?_of_mem hp
  obtain ⟨vs, n, q, e, _, _⟩ := R.get i p hi
  exact ne_objs N (hs p hp) hX (fun e2 => hne vs n (e2.symm.trans e))
section
variable {w : World} {mg mb : Str → Option Value} {fa : Addr} {cd : Value} {h₀ : Heap} {L : Addr} {s : Shared} {Q : Flow → Shared → Prop} {E : Value → Shared → Prop}
theorem law_rest {d D7 bm : Addr} {od p1 p2 p3 c4 c5 ob : Obj} {ys7 : List Value} {n zn : Nat} {sq : List Int} {t8 tn tb tz : Tok} {mz : Str → Option Value} (B : Below callerA h₀ [] h₀)
    (F : Fr h₀ L s.heap (fun y => if y = Str.ofString "book" then some (.ref d) else if y = Str.ofString "bare" then some (.str (bareT (stemT sq) n) tb) else if y = Str.ofString "size" then some (.int zn tz) else mz y))
    (N : News h₀ L s.heap [(d, od), (D7, LCg.lst ys7), (L + 1 + 1, p1), (L + 1 + 1 + 1, p2), (L + 1 + 1 + 1 + 1, p3), (L + 5, c4), (L + 6, c5), (54, tabObj #[])])
    (T : TopRead hd.view_39 (looseW hd.view_39 [Str.ofString "_twin_re_1", Str.ofString "_twin_re_2"]) mg mb h₀)
    (M : BMod h₀ mainGlobals mg bm ob) (hG : AllBare s.gens) (hc4 : c4.data = .cell none) (hc5 : c5.data = .cell none) (hd1 : p1.data = .cell (some (.str (stemT sq) t8))) (hd2 : p2.data = .cell (some (.int n tn))) (hd3 : p3.data = .cell (some (.ref D7))) (hn : n < 1000000)
    (h7 : ys7.length = 7 ∧ ∀ y ∈ ys7, ∃ e t, y = .str e t ∧ EndOk e.cps.toList) (hz : zn = 5 ∨ zn = 6 ∨ zn = 7) (hod : od.IsDictOf (PySem.intKind Challenge.rw_pg0093_01.row.prog w) []) (lod : (d == sysModules) = false) (h54 : @LT.lt Nat _ 54 L)
    (hE : PassesOwn (model Challenge.rw_pg0093_01.row.prog w) (callerA.deeper (lawE L fa cd)) (lawE L fa cd) E)
    (hret : ∀ oP (s' : Shared) m', s'.os = s.os → AllBare s'.gens → TabOk oP → Fr h₀ L s'.heap m' → s'.heap.get? 54 = some oP → Q (.ret (.bool true)) s') :
    (hd.heap_39 w.params).In h₀ → wpAny (model Challenge.rw_pg0093_01.row.prog w) (callerA.deeper (lawE L fa cd)) (execs lawR (lawE L fa cd)) Q E s := by
  k_fill
  intro X
  have e1 : lawB = lawB := rfl
  conv at e1 => rhs; whnf
  have e2 : lawR = lawR := rfl
  conv at e2 => rhs; whnf
  unfold lawE at hE ⊢
  rw [e1] at hE
  rw [e1, e2]
  clear e1 e2
  dsimp only at hE ⊢
  k_steps
  refine unhold ?_
  obtain ⟨hls, hpl⟩ := law_all hz
  have hz7 : zn ≤ 7 := by omega
  with_unfolding_all (refine' For_G ?_ (by intro _; rfl) hE)
  k_steps
  refine unhold ?_
  rename Fr _ _ _ _ => F1
  rename News _ _ _ _ => N1
  with_unfolding_all refine' parts_ct w mg mb zn zn zn _ _ _ _ _ _ _ _ _ _ _ _ _ _ _ _ _ _ _ _ (Nat.le_refl _) hz7 ?h3 hz7 B F1 N1 T rfl ?hdd ?huu hG ?_ X
  case h3 => omega
  case hdd => exact Nat.lt_of_le_of_lt (Nat.add_le_add_right (Nat.add_le_add_left (Nat.mul_le_mul_left 3 hz7) _) 5) (Nat.le_of_ble_eq_true rfl)
  case huu => exact Nat.lt_of_le_of_lt (Nat.add_le_add_right (Nat.add_le_add_left (Nat.mul_le_mul_left 20 hz7) _) 100) (Nat.le_of_ble_eq_true rfl)
  intro Dl nl rs s2 os2 G2 R2 F2 N2
  clear F1 N1
  try dsimp only
  have mDl : (Dl, listObj (refs rs) nl) ∈ (Dl, listObj (refs rs) nl) :: (rs ++ [(d, od), (D7, LCg.lst ys7), (L + 1 + 1, p1), (L + 1 + 1 + 1, p2), (L + 1 + 1 + 1 + 1, p3), (L + 5, c4), (L + 6, c5), (54, tabObj #[])]) := .head _
  have mrs : ∀ p ∈ rs, p ∈ (Dl, listObj (refs rs) nl) :: (rs ++ [(d, od), (D7, LCg.lst ys7), (L + 1 + 1, p1), (L + 1 + 1 + 1, p2), (L + 1 + 1 + 1 + 1, p3), (L + 5, c4), (L + 6, c5), (54, tabObj #[])]) := fun p hp => .tail _ (List.mem_append_left _ hp)
  have mst : ∀ p ∈ [(d, od), (D7, LCg.lst ys7), (L + 1 + 1, p1), (L + 1 + 1 + 1, p2), (L + 1 + 1 + 1 + 1, p3), (L + 5, c4), (L + 6, c5), (54, tabObj #[])], p ∈ (Dl, listObj (refs rs) nl) :: (rs ++ [(d, od), (D7, LCg.lst ys7), (L + 1 + 1, p1), (L + 1 + 1 + 1, p2), (L + 1 + 1 + 1 + 1, p3), (L + 5, c4), (L + 6, c5), (54, tabObj #[])]) := fun p hp => .tail _ (List.mem_append_right _ hp)
  obtain ⟨ed, epd, hexd, hdtd, _⟩ := id hod
  have offX : ∀ Y oY, (Y, oY) ∈ [(L + 5, c4), (L + 6, c5), (54, tabObj #[])] → (∀ vs n, oY ≠ listObj vs n) → oY ≠ od → Off Y ((d, od) :: (D7, LCg.lst ys7) :: (Dl, listObj (refs rs) nl) :: rs) := fun Y oY hY h1 h2 => by
    have hY' : (Y, oY) ∈ [(d, od), (D7, LCg.lst ys7), (L + 1 + 1, p1), (L + 1 + 1 + 1, p2), (L + 1 + 1 + 1 + 1, p3), (L + 5, c4), (L + 6, c5), (54, tabObj #[])] := .tail _ (.tail _ (.tail _ (.tail _ (.tail _ hY))))
    exact off_cons (ne_objs N2 (mst _ (.head _)) (mst _ hY') (fun e => h2 e.symm)) (off_cons (ne_objs N2 (mst _ (.tail _ (.head _))) (mst _ hY') (fun e => h1 ys7 ys7.length e.symm)) (off_cons (ne_objs N2 mDl (mst _ hY') (fun e => h1 _ _ e.symm)) (rows_off R2 N2 mrs (mst _ hY') h1)))
  have off5 := offX (L + 5) c4 (.head _) (fun vs n e => by rw [e] at hc4; cases hc4) (fun e => by rw [e, hdtd] at hc4; cases hc4)
  have off6 := offX (L + 6) c5 (.tail _ (.head _)) (fun vs n e => by rw [e] at hc5; cases hc5) (fun e => by rw [e, hdtd] at hc5; cases hc5)
  have offP := offX 54 (tabObj #[]) (.tail _ (.tail _ (.head _))) (fun vs n e => by cases e) (fun e => by rw [← e] at hdtd; cases hdtd)
  have offS : ∀ Y, (Y = L + 5 ∨ Y = L + 6 ∨ Y = 54) → Off Y ((D7, LCg.lst ys7) :: (Dl, listObj (refs rs) nl) :: rs) := fun Y hY => by
    rcases hY with rfl | rfl | rfl
    · exact fun p hp => off5 p (.tail _ hp)
    · exact fun p hp => off6 p (.tail _ hp)
    · exact fun p hp => offP p (.tail _ hp)
  have m0 : News h₀ L s2.heap ((L + 5, c4) :: (L + 6, c5) :: (54, tabObj #[]) :: (d, od) :: (L + 1 + 1, p1) :: (L + 1 + 1 + 1, p2) :: (L + 1 + 1 + 1 + 1, p3) :: (D7, LCg.lst ys7) :: ((Dl, listObj (refs rs) nl) :: rs)) := fun p hp => N2 p (by
    simp only [List.mem_cons, List.mem_append] at hp ⊢
    rcases hp with h | h | h | h | h | h | h | h | h | h <;> simp [h])
  refine list_updG (vs := refs rs) (nn := nl) (σ := LS) LS.vals (fun a => (L + 5, a.c4) :: (L + 6, a.c5) :: (54, a.oP) :: (a.d, a.od) :: (L + 1 + 1, p1) :: (L + 1 + 1 + 1, p2) :: (L + 1 + 1 + 1 + 1, p3) :: (D7, LCg.lst ys7) :: (a.ps ++ (Dl, listObj (refs rs) nl) :: rs))
    (fun i a => TabOk a.oP ∧ ((∃ v, a.c4.data = .cell v) ∧ ∃ v, a.c5.data = .cell v) ∧ (a.od.IsDictOf (PySem.intKind Challenge.rw_pg0093_01.row.prog w) a.kt ∧ (a.d == sysModules) = false) ∧ (BV a.ps a.kt a.b ∧ a.b = bookS ((pn zn zn zn).take i) ∧ a.kt.length ≤ i) ∧ ∀ Y, Y = L + 5 ∨ Y = L + 6 ∨ Y = 54 → Off Y ((a.d, a.od) :: a.ps))
    ⟨c4, c5, tabObj #[], d, od, [], [], [], mz (Str.ofString "mail"), mz (Str.ofString "entry"), mz (Str.ofString "steps"), mz (Str.ofString "pair")⟩ rfl F2 m0 G2 ?_ ⟨rfl, rfl, rfl, rfl, rfl, trivial⟩ rfl ⟨⟨#[], rfl, trivial⟩, ⟨⟨_, hc4⟩, _, hc5⟩, ⟨hod, lod⟩, ⟨.nil, rfl, Nat.le_refl _⟩, ?_⟩ ?_ ?_ ?_
  · exact .tail _ (.tail _ (.tail _ (.tail _ (.tail _ (.tail _ (.tail _ (.tail _ (.head _))))))))
  · intro Y hY
    rcases hY with rfl | rfl | rfl
    · exact fun p hp => off5 p (by rw [List.mem_singleton.mp hp]; exact .head _)
    · exact fun p hp => off6 p (by rw [List.mem_singleton.mp hp]; exact .head _)
    · exact fun p hp => offP p (by rw [List.mem_singleton.mp hp]; exact .head _)
  · intro i a _
    exact .tail _ (.tail _ (.tail _ (.tail _ (.tail _ (.tail _ (.tail _ (.tail _ (List.mem_append_right _ (.head _)))))))))
  · intro I i v a s₁ oI hv hInv e1 G1 hoff hcI F' N'
    obtain ⟨hP, ⟨hc4', hc5'⟩, ⟨hod', lod'⟩, ⟨hbv, hb, hkl⟩, hX⟩ := hInv
    obtain ⟨p, hp, rfl⟩ : ∃ p, rs[i]? = some p ∧ v = .ref p.1 := by
      rw [refs, List.getElem?_map] at hv
      obtain ⟨p, hp, e⟩ := Option.map_eq_some_iff.mp hv
      exact ⟨p, hp, e.symm⟩
    obtain ⟨vsr, nr, q, er, hqi, hir⟩ := R2.get i p hp
    obtain ⟨r, orr⟩ := p
    dsimp only at er
    subst er
    have hqm := List.mem_of_getElem? hqi
    have hrm := List.mem_of_getElem? hp
    obtain ⟨hok, hpos, hq1⟩ := lawS_at hls hqm
    have hq7 := pn_len _ _ _ _ hqm
    have hi50 : i ≤ 50 := by
      rcases Nat.lt_or_ge i (pn zn zn zn).length with h | h
      · omega
      · rw [List.getElem?_eq_none h] at hqi; cases hqi
    have offT : ∀ Y, (Y = L + 5 ∨ Y = L + 6 ∨ Y = 54) → Off Y ((a.d, a.od) :: (L + 1 + 1, p1) :: (L + 1 + 1 + 1, p2) :: (L + 1 + 1 + 1 + 1, p3) :: (D7, LCg.lst ys7) :: (r, listObj vsr nr) :: (a.ps ++ (Dl, listObj (refs rs) nl) :: rs)) := fun Y hY => by
      have hS := offS Y hY
      have hA := hX Y hY
      refine off_cons (hA _ (.head _)) (off_cons ?_ (off_cons ?_ (off_cons ?_ (off_cons (hS _ (.head _)) (off_cons (hS _ (.tail _ (.tail _ hrm))) fun x hx => ?_)))))
      · rcases hY with rfl | rfl | rfl <;> (show @Ne Nat _ _; omega)
      · rcases hY with rfl | rfl | rfl <;> (show @Ne Nat _ _; omega)
      · rcases hY with rfl | rfl | rfl <;> (show @Ne Nat _ _; omega)
      · rcases List.mem_append.mp hx with hx | hx
        · exact hA x (.tail _ hx)
        · exact hS x (.tail _ hx)
    have hI5 : I ≠ L + 5 := Ne.symm (hoff (L + 5, a.c4) (.head _))
    have hI6 : I ≠ L + 6 := Ne.symm (hoff (L + 6, a.c5) (.tail _ (.head _)))
    have hIP : I ≠ 54 := Ne.symm (hoff (54, a.oP) (.tail _ (.tail _ (.head _))))
    have n65 : L + 6 ≠ L + 5 := by show @Ne Nat _ _; omega
    have n55 : L + 5 ≠ 54 := by show @Ne Nat _ _; omega
    have n66 : L + 6 ≠ 54 := by show @Ne Nat _ _; omega
    have N'' : News h₀ L s₁.heap ((I, oI) :: (L + 5, a.c4) :: (L + 6, a.c5) :: (54, a.oP) :: (a.d, a.od) :: (L + 1 + 1, p1) :: (L + 1 + 1 + 1, p2) :: (L + 1 + 1 + 1 + 1, p3) :: (D7, LCg.lst ys7) :: (r, listObj vsr nr) :: (a.ps ++ (Dl, listObj (refs rs) nl) :: rs)) := fun x hx => N' x (by
      simp only [List.mem_cons, List.mem_append] at hx ⊢
      rcases hx with h | h | h | h | h | h | h | h | h | h | h | h | h
      all_goals first | (simp [h]; done) | (rw [h]; simp [hrm]))
    with_unfolding_all refine' law_turn (a := a) (q := q) (R := (Dl, listObj (refs rs) nl) :: rs) B F' N'' T M G1 hP hI5 hI6 (off_cons n65 (off_cons (Ne.symm n55) (offT _ (.inl rfl)))) (off_cons (Ne.symm n66) (offT _ (.inr (.inl rfl)))) hc4' hc5' hd1 hd2 hd3 hn h7 hir ⟨hq1, Nat.le_trans hq7 hz7⟩ hpos hok hod' lod' hbv (Nat.le_trans hkl hi50) hcI hIP ⟨n55, n66⟩ (offT _ (.inr (.inr rfl))) ?_ X
    intro a' s' m₂ os' G' F3 hav hm N3 hP' hc4'' hc5'' hod'' lod'' hbv' hb' hkl' hX'
    refine UpdPostG.fin a' G' os' F3 hav hm ?_ ?_ ⟨hP', ⟨hc4'', hc5''⟩, ⟨hod'', lod''⟩, ⟨hbv', ?_, Nat.le_trans hkl' (Nat.succ_le_succ hkl)⟩, ?_⟩
    · exact fun x hx => N3 x (by
        simp only [List.mem_cons, List.mem_append] at hx ⊢
        rcases hx with h | h | h | h | h | h | h | h | h | h | h | h <;> simp [h])
    · intro x hx
      simp only [List.mem_cons, List.mem_append] at hx
      obtain ⟨x1, x2⟩ := hX' I (.inl rfl)
      have old := fun y hy => hoff y hy
      rcases hx with h | h | h | h | h | h | h | h | h | h | h
      · rw [h]; exact Ne.symm hI5
      · rw [h]; exact Ne.symm hI6
      · rw [h]; exact Ne.symm hIP
      · rw [h]; exact x1
      · exact old x (by simp [h])
      · exact old x (by simp [h])
      · exact old x (by simp [h])
      · exact old x (by simp [h])
      · exact fun e => old x (by simp [x2 x h e]) e
      · exact old x (by simp [h])
      · exact old x (by simp [h])
    · rw [hb', hb, bookS_succ hqi]
    · intro Y hY
      obtain ⟨x1, x2⟩ := hX' Y (.inr hY)
      intro x hx
      rcases List.mem_cons.mp hx with h | h
      · rw [h]; exact x1
      · exact fun e => hX Y hY x (.tail _ (x2 x h e)) e
  · intro a s' hInv e1 G1 F' N'
    obtain ⟨hP, ⟨hc4', hc5'⟩, ⟨hod', lod'⟩, ⟨hbv, hb, hkl⟩, hX⟩ := hInv
    have hlr := R2.length
    have hlen : (refs rs).length = (pn zn zn zn).length := by rw [refs, List.length_map]; exact hlr
    rw [hlen] at hb hkl
    rw [List.take_length] at hb
    have hend := lawS_end hls
    rw [← hb] at hend
    obtain ⟨c4', c5', oP, d', od', kt, b, ps, vm, ve, vst, vp⟩ := a
    dsimp only [LS.vals] at hP hc4' hc5' hod' lod' hbv hb hkl hX hend F' N' ⊢
    k_steps
    refine unhold ?_
    rename Fr _ _ _ _ => F3
    rename News _ _ _ _ => N3
    with_unfolding_all refine' wpAny_ListComp_free (fun _ => false) (fun _ _ => True) ?clos2 ?hc2 ?hk2 ?hn2 ?hx2 ?_
    case clos2 => with_unfolding_all rfl
    case hc2 => decide
    case hk2 => rfl
    case hn2 => decide
    case hx2 => rfl
    with_unfolding_all ((refine MethodCall_ ?_); (refine nameX_L F3 (by rfl) ?_ (by rfl) (by rfl)); (refine kdl_method (knd := PySem.intKind _ _) PySem.F.slot_dict_values PySem.F.type_dict_values N3 (.tail _ (.tail _ (.tail _ (.head _)))) hod' ?_); (refine callWith_method0 ?_); (refine kta_callValues (knd := PySem.intKind _ _) F3 N3 (.tail _ (.tail _ (.tail _ (.head _)))) hod' lod' ?_); intro h4 hv4 F4 N4)
    clear F3 N3
    obtain ⟨ep, hat⟩ := (kda_dict (s := { s' with heap := h4 }) (knd := PySem.intKind Challenge.rw_pg0093_01.row.prog w) N4 (.tail _ (.tail _ (.tail _ (.head _)))) hod').dictAt
    have hne : d' ≠ h4.objs.size := Nat.ne_of_lt hat.lt_size
    refine wpAny_pyIter_values hv4 hat ?_
    refine ⟨h4.objs.size, [h4.objs.size, d'], [h4.objs.size], kt.length, _, _, rfl, Walks.dictValues (knd := PySem.intKind _ _) rfl h4.objs.size d' hne kt ep, by rw [sizeLine_eq]; omega, ⟨⟨_, Heap.get?_push_size _ rfl, rfl, rfl⟩, hat.push _⟩, ?_, ⟨?_, ?_⟩, ?_⟩
    · intro y hy
      show y < (h4.push _).objs.size
      rw [Heap.size_push]
      rcases List.mem_cons.mp hy with rfl | hy
      · exact Nat.lt_succ_self _
      · rw [List.mem_singleton.mp hy]
        exact Nat.lt_succ_of_lt hat.lt_size
    · intro C i v s₃ m₃ E' hC hv hns hm hk _
      obtain ⟨k, hkv⟩ := hv
      obtain ⟨q, oq, x, y, rfl, hqm, ⟨hcq, tq, uq, nq, hdq⟩, hbm⟩ := hbv.at i k v hkv
      have hxy : x = y := hend _ hbm
      subst hxy
      have up : ∀ b o, h4.get? b = some o → s₃.heap.get? b = some o := fun b o e => hk b o (fun hmm => by rw [List.mem_singleton.mp hmm] at e; exact Nat.lt_irrefl _ (Heap.lt_size e)) (Heap.get?_push_of_some _ e)
      have F5 := F4.keeps up
      have N5 : News h₀ L s₃.heap _ := N4.grown up
      obtain ⟨oC, gC, nC⟩ := LCg.ns_obj hns
      have hC' : h4.objs.size + 1 ≤ C := by
        have := hC
        dsimp only at this
        rwa [Heap.size_push] at this
      have hLs := F4.ns.lt
      have hCL : C ≠ L := fun e => by
        rw [e] at hC'
        exact absurd hLs (Nat.not_lt.mpr (Nat.le_trans (Nat.le_succ _) hC'))
      have hC0 : h₀.get? C = none := Heap.get?_none_of_le (Nat.le_trans (Nat.le_of_lt (Nat.lt_of_le_of_lt F4.above hLs)) (Nat.le_trans (Nat.le_succ _) hC'))
      have N6 := news_new N5 gC hCL hC0 N5
      clear N5
      have hqN := (N6 (q, oq) (.tail _ (.tail _ (.tail _ (.tail _ (.tail _ (.tail _ (.tail _ (.tail _ (.tail _ (List.mem_append_left _ hqm))))))))))).1
      have htq : IsTup s₃.heap q [Value.int x tq, Value.int x uq].toArray := ⟨_, hqN, hcq, nq, hdq⟩
      refine wpAny_tests_one ?_
      refine wpAny_mono (Q := QuietPost false s₃) ?_ (fun _ _ h => h) fun _ _ e => e
      k_steps
      refine unhold ?_
      refine item_tupleT htq (by decide) (by decide) rfl rfl ?_
      k_steps
      refine unhold ?_
      refine item_tupleT htq (by decide) (by decide) rfl rfl ?_
      k_steps
      refine ⟨by simp, _, _, rfl, fun _ _ e => e⟩
    · intro C i v s₃ m₃ E' hC hv hp
      cases hp
    · intro D h5 tk5 ys vs5 hD hl5 hpl5 hlen5 hP5 hF5 hk5
      have hys : ys.toList = [] := by
        rw [List.filter_eq_nil_iff.mpr (fun _ _ => by simp)] at hF5
        cases h : ys.toList with
        | nil => rfl
        | cons y l => rw [h] at hF5; cases hF5
      have hys2 : ys = #[] := Array.toList_inj.mp hys
      subst hys2
      have up : ∀ b o, h4.get? b = some o → h5.get? b = some o := fun b o e => hk5 b o (fun hmm => by rw [List.mem_singleton.mp hmm] at e; exact Nat.lt_irrefl _ (Heap.lt_size e)) (Heap.get?_push_of_some _ e)
      have F5 := F4.keeps up
      have N5 : News h₀ L h5 _ := N4.grown up
      obtain ⟨nD, gD⟩ := hpl5
      have hDn : h4.get? D = none := by
        cases e : h4.get? D with
        | none => rfl
        | some o => rw [Heap.get?_push_of_some _ e] at hD; cases hD
      have hDL : D ≠ L := fun e => by
        have hx : h4.Ns L _ := F4.ns
        obtain ⟨o, _, _, ho, _⟩ := hx
        rw [← e, hDn] at ho
        cases ho
      have hD0 : h₀.get? D = none := by
        cases e : h₀.get? D with
        | none => rfl
        | some o => have := F4.keep _ _ e; rw [hDn] at this; cases this
      have N6 := news_new N5 gD hDL hD0 N5
      clear N5 F4 N4
      try dsimp only
      k_steps
      rename Fr _ _ _ _ => F9
      rename News _ _ _ _ => N9
      exact hret oP _ _ (e1.trans os2) G1 hP F9 (N9 (54, oP) (by k_mem)).1
end
end Mine
end
-- LR
section
open PySem PySem.W PySem.Calls PyProof.Rows
set_option maxRecDepth 100000
set_option maxHeartbeats 8000000
namespace Mine
local macro_rules | `(tactic| walk_at "execs cons") => `(tactic| ((with_reducible show wpAny _ _ (execs (Stmt.For _ _ _ _ _ :: _) _) _ _ _); refine hold ?_))
local macro_rules | `(tactic| walk_at "eval ListComp") => `(tactic| (refine hold ?_))
local macro_rules | `(tactic| walk_at "CompSrc") => `(tactic| (refine hold ?_))
local macro_rules | `(tactic| walk_at "binaryOp Add str str") => `(tactic| (refine hold ?_))
local macro_rules | `(tactic| walk_at "call ref") => `(tactic| (refine hold ?_))
local macro_rules | `(tactic| walk_at "call builtin:chr") => `(tactic| (refine hold ?_))
local macro_rules | `(tactic| walk_at "call builtin:str.join") => `(tactic| (refine hold ?_))
local macro_rules | `(tactic| walk_at "eval Name") => `(tactic| ((with_reducible show wpAny _ _ (eval (Expr.Name _ _) (compEnvC _ _ _ _)) _ _ _); k_dflt (first | refine ldB_C (by k_asm) (by k_asm) (by k_asm) (by k_is) (by boot_by_name) (by decide) ?_ | refine ldG_C (by k_asm) (by k_asm) (by k_asm) (by k_is) ?_)))
section
variable {w : World} {mg mb : Str → Option Value} {fa : Addr} {cd : Value} {h₀ : Heap} {L : Addr} {s : Shared} {Q : Flow → Shared → Prop} {E : Value → Shared → Prop}
theorem law_run {ax bm : Addr} {vs : List Value} {q : List Int} {c0 c1 c2 c3 c4 c5 ob : Obj} (B : Below callerA h₀ [] h₀) (F : Fr h₀ L s.heap (bindL (lawE L fa cd).kindOf [(Str.ofString "script", .ref ax)] fun _ => none))
    (N : News h₀ L s.heap [(L + 1, c0), (L + 2, c1), (L + 3, c2), (L + 4, c3), (L + 5, c4), (L + 6, c5), (54, tabObj #[])]) (T : TopRead hd.view_39 (looseW hd.view_39 [Str.ofString "_twin_re_1", Str.ofString "_twin_re_2"]) mg mb h₀)
    (M : BMod h₀ mainGlobals mg bm ob) (hG : AllBare s.gens) (d0 : c0.data = .cell none) (d1 : c1.data = .cell none) (d2 : c2.data = .cell none) (d3 : c3.data = .cell none) (d4 : c4.data = .cell none) (d5 : c5.data = .cell none)
    (hl : h₀.IsList ax vs.toArray) (hq : IntsAre vs q) (hlen : q.length ≤ 63) (h54 : @LT.lt Nat _ 54 L)
    (hE : PassesOwn (model Challenge.rw_pg0093_01.row.prog w) (callerA.deeper (lawE L fa cd)) (lawE L fa cd) E)
    (hret : ∀ oP (s' : Shared) m', s'.os = s.os → AllBare s'.gens → TabOk oP → Fr h₀ L s'.heap m' → s'.heap.get? 54 = some oP → Q (.ret (.bool true)) s') :
    (hd.heap_39 w.params).In h₀ → wpAny (model Challenge.rw_pg0093_01.row.prog w) (callerA.deeper (lawE L fa cd)) (execs lawB.1 (lawE L fa cd)) Q E s := by
  k_fill
  intro X
  have e1 : lawB = lawB := rfl
  conv at e1 => rhs; whnf
  unfold lawE at F ⊢
  rw [e1] at F ⊢
  clear e1
  dsimp only at F ⊢
  k_steps
  refine unhold ?_
  rename Fr _ _ _ _ => F1
  rename News _ _ _ _ => N1
  with_unfolding_all refine' LCg.ListComp_U (F₀ := F1) ?cl1 ?hc1 ?hk1 ?hn1 ?hx1 ?_
  case cl1 => with_unfolding_all rfl
  case hc1 => decide
  case hk1 => rfl
  case hn1 => decide
  case hx1 => rfl
  k_steps
  refine unhold ?_
  rename Fr _ _ _ _ => F2
  rename News _ _ _ _ => N2
  rename IntsAre _ (List.take 4 _) => hI4
  have hl4 := hI4.length
  refine LCg.CompSrc.ledger rfl F2 N2 (.head _) (by rw [List.size_toArray, sizeLine_eq, hl4]; simp only [List.length_take]; omega) ?_
  intro g
  refine comp_upd (σ := List Value) (fun _ => _) (fun ys => ys) (fun i ys => StrsAre ys ((((q.take 14).take 4).take i).map chrT)) ?_ ?_ _ 0 [] (Nat.zero_add _) .nil
  · intro i v ys I oI C oC D m₂ h tk E' hi hv hInv hC hx F N ho hne
    obtain ⟨z, t, rfl, hz⟩ := hI4.at i v (by simpa using hv)
    k_steps
    refine unhold ?_
    rename Fr _ _ _ _ => F3
    rename News _ _ _ _ => N3
    have hz0 : 0 ≤ 192 + z.fmod 5000 ∧ 192 + z.fmod 5000 ≤ 1114111 := by rw [Int.fmod_eq_emod_of_nonneg _ (by decide)]; omega
    refine chr_of_range hz0.1 hz0.2 ?_
    refine ⟨_, _, _, rfl, F3, N3, ho, .inr ⟨_, .head _, rfl, _, rfl⟩, rfl, ?_⟩
    rw [List.take_add_one, hz, List.map_append]
    exact strs_snoc hInv
  · intro ys hInv D h tk F N off
    rw [List.size_toArray, hl4, List.take_length] at hInv
    clear F2 N2
    simp only [LCg.Off1, and_true] at off
    k_steps
    refine unhold ?_
    rename Fr _ _ _ _ => F3
    rename News _ _ _ _ => N3
    refine join_list (isList_led N3 (.head _)) hInv ?_ fun t9 k9 => ?_
    · have : ∀ l : List Int, ((l.map chrT).map (·.length)).sum = l.length := fun l => by
        induction l with
        | nil => rfl
        | cons x l ih => simp only [List.map_cons, List.sum_cons, ih, List.length_cons]; show 1 + _ = _; omega
      rw [this, List.length_map]
      have e0 : (Str.ofString "").length = 0 := by decide +kernel
      rw [e0]
      simp only [List.length_take]
      omega
    k_steps
    refine unhold ?_
    have hst := stem_len q
    have hst2 : (stemT q).length = (Txt.join (Str.ofString "") (((q.take 14).take 4).map chrT)).length + (Str.ofString "a").length := by
      show (stemT q).cps.size = (Txt.join (Str.ofString "") (((q.take 14).take 4).map chrT)).cps.size + (Str.ofString "a").cps.size
      exact Array.size_append ..
    refine add_str (fun t8 k8 => ?_) (by rw [sizeLine_eq]; omega)
    have est : Txt.join (Str.ofString "") (((q.take 14).take 4).map chrT) ++ Str.ofString "a" = stemT q := rfl
    rw [est]
    clear est hst2
    k_steps
    refine unhold ?_
    rename Fr _ _ _ _ => F4
    rename News _ _ _ _ => N4
    rename Obj.data _ = Data.cell (some (Value.int _ _)) => hd2
    rename Obj.data _ = Data.cell (some (Value.str _ _)) => hd1
    rename Obj.data _ = Data.cell (some (Value.ref _)) => hd0
    obtain ⟨n, en, hn⟩ := line_is (q.take 14).sum
    rw [en] at N4 hd2
    dsimp only at N4 hd2 F4
    with_unfolding_all refine' fss_ct B F4 N4 T rfl ?hdd ?huu (.head _) ?hs ?hok ?hl (Int.natCast_nonneg _) ?h1 ?_ X
    case hdd => exact Nat.le_of_ble_eq_true rfl
    case huu => exact Nat.le_of_ble_eq_true rfl
    case hs => (have := row_ne_tilde 0 q; rwa [rowT_zero] at this)
    case hok => (have := row_ok 0 q; rwa [rowT_zero] at this)
    case hl => omega
    case h1 => omega
    intro tb h5 tk5 F5 N5'
    have N5 := nd (nd (nd N5'))
    clear F4 N4 N5'
    dsimp only
    k_steps
    refine unhold ?_
    rename Fr _ _ _ _ => F6
    rename News _ _ _ _ => N6
    with_unfolding_all refine' LCg.ListComp_U (F₀ := F6) ?clos2 ?hc2 ?hk2 ?hn2 ?hx2 ?_
    case clos2 => with_unfolding_all rfl
    case hc2 => decide
    case hk2 => rfl
    case hn2 => decide
    case hx2 => rfl
    k_steps
    refine unhold ?_
    rename Fr _ _ _ _ => F7
    rename News _ _ _ _ => N7
    refine LCg.CompSrc.range (n := 7) rfl F7 N7 (by assumption) (by decide +kernel) (by decide +kernel) (by rw [sizeLine_eq]; decide) ?_
    intro g7
    refine comp_upd (σ := List Value) (fun _ => _) (fun ys => ys) (fun i ys => ys.length = i ∧ ∀ y ∈ ys, ∃ e t, y = .str e t ∧ EndOk e.cps.toList) ?_ ?_ _ 0 [] (Nat.zero_add _) ⟨rfl, fun y hy => by cases hy⟩
    · intro i v ys7 I oI C oC D7 m₂ h7 tk7 E' hi hv hInv7 hC hx F N ho hne
      obtain ⟨ti, rfl⟩ := hv
      k_steps
      rename Fr _ _ _ _ => F8
      rename News _ _ _ _ => N8
      rename IntsAre _ (List.take 14 _) => hI14
      refine sumK rfl F8 N8 (News.isList N8 (.head _)) (IntsAre.pick hI14 _ _ _) ?_
      intro h9 tk9 t9' F9 N9
      clear F8 N8
      generalize (pickNums _ _ _ _).sum = z
      k_steps
      all_goals (
        rename Fr _ _ _ _ => F10
        rename News _ _ _ _ => N10
        refine ⟨_, _, _, rfl, F10, nd (nd N10), ho, trivial, rfl, ends_snoc hInv7 (by first | exact end_n | exact end_r | exact end_rn)⟩)
    · intro ys7 hInv7 D7 h7 tk7 F N off7
      simp only [LCg.Off1, and_true] at off7
      have N9 := nc N (.head _) (nd (nd N))
      obtain ⟨_, o1, o2, o3, o4, o5, o6, o7⟩ := off7
      clear N off hI4 hInv hl4
      k_steps
      refine unhold ?_
      rename Fr _ _ _ _ => F30
      rename News _ _ _ _ => N30
      rename Obj.data _ = Data.cell (some (Value.ref D7)) => hd3
      rename Obj.IsDictOf (PySem.intKind _ _) _ [] => hod
      rename (_ == sysModules) = false => lod
      obtain ⟨zn, ez, hz⟩ := size_is (q.take 14).sum
      rw [ez] at F30
      have N31 := nc N30 (.head _) (nc N30 (.tail _ (.head _)) (nd (nd (nd N30))))
      with_unfolding_all refine' law_rest B F30 N31 T M hG d4 d5 hd1 hd2 hd3 hn hInv7 hz hod lod h54 hE hret X
end
end Mine
end
-- LW
section
open PySem PySem.W PySem.Calls PyProof.Rows
set_option maxRecDepth 100000
set_option maxHeartbeats 8000000
namespace Mine
theorem ghost_read {h₁ : Heap} {tabs : List (Addr × Addr)} {p : Program} {loose : List Str} {mean : ExcName → Option Value} {mg mb : Str → Option Value} (hT : TabsAt tabs h₁) (T : Top p loose mean mg mb h₁) : TopRead p loose mg mb (ghostOf h₁ tabs) :=
  ⟨ghost_ns hT T.g, ghost_ns hT T.b, let ⟨mc, a, r⟩ := T.nolimit; ⟨mc, ghost_ns hT a, r⟩, T.builtins, T.free⟩
theorem ghost_bmod {h₁ : Heap} {tabs : List (Addr × Addr)} {g bm : Addr} {mg : Str → Option Value} {ob : Obj} (hT : TabsAt tabs h₁) (M : BMod h₁ g mg bm ob) : BMod (ghostOf h₁ tabs) g mg bm ob :=
  ⟨ghost_ns hT M.ns, M.name, M.ne, ghost_get hT M.obj (fun q => by have := M.cls; rw [q] at this; cases this), M.cls, M.dict, M.data⟩
theorem tab58 {w : World} {h : Heap} {loose : List Str} {mean : ExcName → Option Value} {mg mb : Str → Option Value} (T : Top hd.view_39 loose mean mg mb h) (X : (hd.heap_39 w.params).In h) : TabsAt [(58, 54)] h := by
  have := tab_of (x := Str.ofString "add_callers") (c := 58) (P := 54) T X (d := ?d) ?a ?b
  case a => with_unfolding_all rfl
  case b => with_unfolding_all rfl
  exact List.forall_mem_cons.mpr ⟨this, fun _ h => nomatch h⟩
/-- what the law's run ends with -/
noncomputable def LawEnd (s₁ : Shared) (r : Result) (s' : Shared) : Prop :=
  r = .ok (.ret (.bool true)) ∧ (∀ b o, (ghostOf s₁.heap [(58, 54)]).get? b = some o → s'.heap.get? b = some o) ∧ (∃ oP, s'.heap.get? 54 = some oP ∧ TabOk oP) ∧ s'.os = s₁.os ∧ AllBare s'.gens
theorem law_end {c : ClaimW} {cl : Str → Option Addr} {mean : ExcName → Option Value} {args : List WData} {s₁ s' : Shared} {r : Result} (hT : TabsAt [(58, 54)] s₁.heap) (hr : ∀ cls, c.raises args cls = false) (hp : c.post args (.bool true) args = true)
    (h : LawEnd s₁ r s') : GoodWG c cl mean args s₁ r s' := by
  obtain ⟨rfl, hk, ⟨oP, hP, ps, rfl, _⟩, hos, hg⟩ := h
  obtain ⟨hc, h54⟩ := hT (58, 54) (.head _)
  have keep : ∀ b o, b ≠ 54 → s₁.heap.get? b = some o → s'.heap.get? b = some o := fun b o hb e => hk b o (ghost_ne e (by simpa using hb))
  refine ⟨.inl ⟨_, _, [], rfl, hr, ReadsW.bool _, hp, fun _ => ⟨List.nodup_nil, fun a ha => by cases ha⟩⟩, ⟨fun b o e => ?_, fun b o e => ?_⟩, hos, hg⟩
  · by_cases hb : b = 54
    · subst hb
      rw [h54] at e
      cases e
      exact .inr (.inl ⟨(hc.tab h54).isCodeTable, rfl, #[], ps, rfl, by rw [Array.empty_append]; exact hP⟩)
    · exact .inl (keep b o hb e)
  · by_cases hb : b = 54
    · exact ⟨_, hb ▸ hP⟩
    · exact ⟨o, keep b o hb e⟩
theorem test : PySem.Challenge.rw_pg0093_01.Holds := hd (by
  k_fill
  intro w s₀ s₁ mg mb G Y fa o pm cd doc dV kV ho hdx hcd hD hmg hg args vals as hpre hlay hrd hwl hlo
  have KX := kIn_of Y
  have X := (Ground.X G).1
  have V := (Ground.X G).2
  refine Ground.open G ?_
  intro T B D TE TW
  try (refine guard_noD D (by decide +kernel) ?_; clear D)
  obtain ⟨bm, ob, M0⟩ := bmod_of_top T
  have hT9 := tab58 T KX
  clear hmg
  wrow_args hpre hlay hrd hwl hlo
  all_goals (
    first | refine callC_kw (enter_call ?_) | refine enter_call ?_
    w_top on
    refine codeAny_mono ?_ (fun _ _ g => law_end hT9 (fun _ => rfl) (by with_unfolding_all rfl) g)
    w_call any ho hdx hcd hD T F
    clear hdx
    rename News _ _ _ _ => N0
    rename Fr _ _ _ _ => F0)
  rename Heap.IsList _ _ _ => hL
  rename IntsAre _ _ => hq
  rename_i c5 c4 c3 c2 c1 c0 d5 d4 d3 d2 d1 d0 _
  have F1 := ghost_fr hT9 F0
  have N1 := ghost_news hT9 F0 N0
  have N2 := nc N1 (.tail _ (.tail _ (.tail _ (.tail _ (.tail _ (.head _)))))) (nc N1 (.tail _ (.tail _ (.tail _ (.tail _ (.head _))))) (nc N1 (.tail _ (.tail _ (.tail _ (.head _)))) (nc N1 (.tail _ (.tail _ (.head _))) (nc N1 (.tail _ (.head _)) (nc N1 (.head _) (nd (nd (nd (nd (nd (nd N1)))))))))))
  have T1 := ghost_read hT9 T
  have X1 := ghost_K hT9 KX (by kernel_rfl)
  have B1 := ghost_below hT9
  have M1 := ghost_bmod hT9 M0
  have L1 := ghost_list hT9 hL
  have h54 := Heap.lt_size (hT9 (58, 54) (.head _)).2
  with_unfolding_all refine' law_run B1 F1 N2 T1 M1 ?hG d0 d1 d2 d3 d4 d5 L1 hq ?hlen h54 ?hE ?hret X1
  case hG => exact .of_eq hg
  case hlen => omega
  case hE => passes_own
  case hret =>
    intro oP s' m' hos hGb hTab F' g'
    exact ⟨rfl, fun b o e => F'.keep b o e, ⟨oP, g', hTab⟩, hos, hGb⟩)
end Mine
end
theorem PySem.Challenge.cw_pg0093_01_holds : PySem.Challenge.rw_pg0093_01.Holds :=
  Mine.test
