import PyProof.Rows.All
import Wide.All
import OpenK.AllK
import Wide.FinOn
import PySem.Challenge.RW_rl0028_01
set_option Elab.async false
section
open PySem PySem.W PyProof.Rows
set_option maxRecDepth 100000
set_option maxHeartbeats 8000000
namespace Mine
open_top hd for PySem.Challenge.rw_rl0028_01
end Mine
end
section
open PySem PySem.W PySem.Calls PySem.Spec PyProof.Rows
set_option maxRecDepth 100000
namespace Mine
theorem plainAttrs_pat : PlainAttrs "re.Pattern" :=
  ⟨⟨"object.__getattribute__", by rw [typeLookup_type, builtinLookup_eq_fast]; kernel_rfl, by decide +kernel⟩, by rw [typeLookup_type, builtinLookup_eq_fast]; kernel_rfl⟩
theorem slot_search : Slot "re.Pattern" "search" "re.Pattern.search" :=
  .of (owner := "re.Pattern") (n := "search") (by rw [typeLookup_type, builtinLookup_eq_fast]; kernel_rfl) (by decide +kernel) (by decide +kernel) (by decide +kernel)
    (by first | exact .inl (by decide +kernel) | exact .inr (by decide +kernel)) (by rw [isSubtype_type]; kernel_rfl)
theorem type_search : typeOf (.builtin "re.Pattern.search") = pure (.type "method_descriptor") := by show builtinType _ = _; rw [builtinType_eq_fast]; kernel_rfl
theorem entry_search : entryFor table "re.Pattern.search" = some Builtin.«re.Pattern.search» := entryFor_of_tree (by kernel_rfl)
theorem slot_sub : Slot "re.Pattern" "sub" "re.Pattern.sub" :=
  .of (owner := "re.Pattern") (n := "sub") (by rw [typeLookup_type, builtinLookup_eq_fast]; kernel_rfl) (by decide +kernel) (by decide +kernel) (by decide +kernel)
    (by first | exact .inl (by decide +kernel) | exact .inr (by decide +kernel)) (by rw [isSubtype_type]; kernel_rfl)
theorem type_sub : typeOf (.builtin "re.Pattern.sub") = pure (.type "method_descriptor") := by show builtinType _ = _; rw [builtinType_eq_fast]; kernel_rfl
theorem entry_sub : entryFor table "re.Pattern.sub" = some Builtin.«re.Pattern.sub» := entryFor_of_tree (by kernel_rfl)
theorem entry_subloop : entryFor table "re.Pattern.sub.loop" = some Builtin.«re.Pattern.sub.loop» := entryFor_of_tree (by kernel_rfl)
theorem noBool_match : typeLookup (.type "re.Match") "__bool__" = pure none := by rw [typeLookup_type, builtinLookup_eq_fast]; kernel_rfl
theorem noLen_match : typeLookup (.type "re.Match") "__len__" = pure none := by rw [typeLookup_type, builtinLookup_eq_fast]; kernel_rfl
theorem owner_pat : Manifest.owners.lookup (String.ofList ['n','r','e','t','t','a','P','.','e','r'].reverse) = some Manifest.sig_re_Pattern := by kernel_rfl
theorem args_search (a b : Value) : argsOk "re.Pattern.search" ⟨[a, b], []⟩ := by
  unfold argsOk; rw [signature?_of (id := "re.Pattern.search") (n := ['h', 'c', 'r', 'a', 'e', 's']) (o := ['n','r','e','t','t','a','P','.','e','r']) (by kernel_rfl) owner_pat]; kernel_rfl
theorem args_sub (a b c : Value) : argsOk "re.Pattern.sub" ⟨[a, b, c], []⟩ := by
  unfold argsOk; rw [signature?_of (id := "re.Pattern.sub") (n := ['b', 'u', 's']) (o := ['n','r','e','t','t','a','P','.','e','r']) (by kernel_rfl) owner_pat]; kernel_rfl
end Mine
end
section
open PySem PySem.Sre
set_option maxRecDepth 100000
set_option linter.unusedVariables false
namespace Mine

/-- a state of the matcher without groups and loops -/
abbrev st (c t : Array Nat) (lim start ls : Nat) (must : Bool) (pc pos handed : Nat) (om : Bool) (frames : List Sre.Frame) (weight : Nat) (answer : Option Bool) (seen : Seen) (outcome : Option Sre.Outcome) : M :=
  { code := c, text := t, lim := lim, start := start, lastStart := ls, mustAdvance := must, pc := pc, pos := pos, handed := handed, outermost := om, marks := #[], frames := frames, weight := weight, answer := answer, seen := seen, outcome := outcome }

def its : Nat → M → M
  | 0, m => m
  | n + 1, m => its n m.step
theorem its_add (a b : Nat) (m : M) : its (a + b) m = its b (its a m) := by
  induction a generalizing m with
  | zero => rw [Nat.zero_add]; rfl
  | succ a ih => rw [Nat.succ_add]; exact ih _

/-- m gets to m' in at most n steps -/
def Gets (n : Nat) (m m' : M) : Prop := ∃ k, k ≤ n ∧ its k m = m'
theorem Gets.refl (m : M) : Gets 0 m m := ⟨0, Nat.le_refl _, rfl⟩
theorem Gets.step {m m' : M} (h : m.step = m') : Gets 1 m m' := ⟨1, Nat.le_refl _, h⟩
theorem Gets.trans {a b : Nat} {m m' m'' : M} (h : Gets a m m') (g : Gets b m' m'') : Gets (a + b) m m'' := by
  obtain ⟨i, hi, e⟩ := h
  obtain ⟨j, hj, f⟩ := g
  exact ⟨i + j, by omega, by rw [its_add, e, f]⟩
theorem Gets.mono {a b : Nat} {m m' : M} (h : Gets a m m') (hab : a ≤ b) : Gets b m m' := let ⟨i, hi, e⟩ := h; ⟨i, by omega, e⟩

def c0 : Array Nat := #[14, 8, 1, 2, 4294967295, 1, 1, 46, 0, 16, 46, 24, 9, 1, 4294967295, 13, 4, 8, 0, 0, 1, 6, 5, 1]
def c1 : Array Nat := #[14, 4, 0, 1, 1, 6, 1, 16, 46, 1]
def c2 : Array Nat := #[14, 9, 4, 1, 2, 16, 10, 16, 13, 0, 7, 7, 16, 13, 16, 10, 15, 18, 5, 16, 10, 15, 13, 11, 16, 13, 5, 5, 0, 16, 10, 1, 15, 2, 0, 1]

theorem step_exec {m : M} (ho : m.outcome = none) (ha : m.answer = none) (hpc : m.pc < m.code.size) : m.step = m.exec := by
  unfold M.step
  rw [ho, ha]
  simp [hpc]
theorem step_lit {m : M} (ho : m.outcome = none) (ha : m.answer = none) (hpc : m.pc < m.code.size) (hop : ops[m.word 0]? = some .LITERAL) :
    m.step = if m.pos ≥ m.lim then { m with seen := m.seen.add (m.word 0), answer := some false } else if m.text.getD m.pos 0 = m.word 1 then { m with seen := m.seen.add (m.word 0), pc := m.pc + 2, pos := m.pos + 1 } else { m with seen := m.seen.add (m.word 0), answer := some false } := by
  rw [step_exec ho ha hpc]
  have hop' : ops[m.code.getD m.pc 0]? = some .LITERAL := hop
  unfold M.exec
  simp only [hop, accepts, itemWidth, hop']
  split
  · rfl
  · by_cases h : m.text.getD m.pos 0 = m.word 1
    · have h' : (m.text.getD m.pos 0 == m.code.getD (m.pc + 1) 0) = true := by simpa [M.word] using h
      rw [if_pos h, h']
    · have h' : (m.text.getD m.pos 0 == m.code.getD (m.pc + 1) 0) = false := by simpa [M.word] using h
      rw [if_neg h, h']; rfl

section
variable {c t : Array Nat} {lim start ls pc pos handed w : Nat} {must om : Bool} {fs : List Sre.Frame} {σ : Seen}

theorem st_lit {x : Nat} (h0 : pc < c.size) (h1 : ops[c.getD pc 0]? = some .LITERAL) (h2 : c.getD (pc + 1) 0 = x) (hp : pos < lim) (hx : t.getD pos 0 = x) :
    (st c t lim start ls must pc pos handed om fs w none σ none).step = st c t lim start ls must (pc + 2) (pos + 1) handed om fs w none (σ.add (c.getD pc 0)) none := by
  refine (step_lit (m := st c t lim start ls must pc pos handed om fs w none σ none) rfl rfl h0 h1).trans ?_
  exact (if_neg (show ¬ pos ≥ lim by omega)).trans (if_pos (show t.getD pos 0 = c.getD (pc + 1) 0 by rw [hx, h2]))
theorem st_lit_no {x : Nat} (h0 : pc < c.size) (h1 : ops[c.getD pc 0]? = some .LITERAL) (h2 : c.getD (pc + 1) 0 = x) (hx : pos < lim → t.getD pos 0 ≠ x) :
    (st c t lim start ls must pc pos handed om fs w none σ none).step = st c t lim start ls must pc pos handed om fs w (some false) (σ.add (c.getD pc 0)) none := by
  refine (step_lit (m := st c t lim start ls must pc pos handed om fs w none σ none) rfl rfl h0 h1).trans ?_
  by_cases hp : pos < lim
  · exact (if_neg (show ¬ pos ≥ lim by omega)).trans (if_neg (show ¬ t.getD pos 0 = c.getD (pc + 1) 0 by rw [h2]; exact hx hp))
  · exact if_pos (show pos ≥ lim by omega)
theorem st_jump (h0 : pc < c.size) (h1 : ops[c.getD pc 0]? = some .JUMP) :
    (st c t lim start ls must pc pos handed om fs w none σ none).step = st c t lim start ls must (pc + 1 + c.getD (pc + 1) 0) pos handed om fs w none (σ.add (c.getD pc 0)) none := by
  rw [step_exec rfl rfl h0]
  unfold M.exec
  simp only [M.word, Nat.add_zero, h1]
theorem st_success (h0 : pc < c.size) (h1 : ops[c.getD pc 0]? = some .SUCCESS) :
    (st c t lim start ls false pc pos handed om fs w none σ none).step = st c t lim start ls false pc pos pos om fs w (some true) (σ.add (c.getD pc 0)) none := by
  rw [step_exec rfl rfl h0]
  unfold M.exec
  simp only [M.word, Nat.add_zero, h1, M.say]
  simp
theorem st_at {k : Nat} {b : Bool} (h0 : pc < c.size) (h1 : ops[c.getD pc 0]? = some .AT) (h2 : c.getD (pc + 1) 0 = k) (h : M.isAt (st c t lim start ls must pc pos handed om fs w none (σ.add (c.getD pc 0)) none) k = .ok b) :
    (st c t lim start ls must pc pos handed om fs w none σ none).step = if b then st c t lim start ls must (pc + 2) pos handed om fs w none ((σ.add (c.getD pc 0)).add (43 + k)) none else st c t lim start ls must pc pos handed om fs w (some false) ((σ.add (c.getD pc 0)).add (43 + k)) none := by
  rw [step_exec rfl rfl h0]
  unfold M.exec
  simp only [M.word, Nat.add_zero, h1, M.say, h2, h]
theorem st_out {b : Bool} : (st c t lim start ls must pc pos handed om [] w (some b) σ none).step = st c t lim start ls must pc pos handed om [] w (some b) σ (some (if b then .matched else .failed)) := rfl
/-- a frame is taken off -/
theorem st_pop {f : Sre.Frame} {b : Bool} : (st c t lim start ls must pc pos handed om (f :: fs) w (some b) σ none).step =
    M.resume (st c t lim start ls must f.pc f.pos handed f.outermost fs (w - (1 + f.kept.marks.size)) none σ none) f b := rfl

abbrev fStart (pc pos : Nat) (om : Bool) : Sre.Frame := { wait := .nextStart, pc := pc, pos := pos, outermost := om }
theorem st_start_yes {p q : Nat} {o : Bool} : (st c t lim start ls must pc pos handed om (fStart p q o :: fs) w (some true) σ none).step =
    st c t lim start ls must p q handed o fs (w - 1) (some true) σ none := rfl
theorem st_start_no {p q : Nat} {o : Bool} (h : q < ls) : (st c t lim start ls must pc pos handed om (fStart p q o :: fs) w (some false) σ none).step =
    M.attemptFrom (st c t lim start ls false p q handed o fs (w - 1) none σ none) (q + 1) false := by
  rw [st_pop]
  show (if q < ls then _ else _) = _
  rw [if_pos h]; rfl
theorem st_start_end {p q : Nat} {o : Bool} (h : ¬ q < ls) : (st c t lim start ls must pc pos handed om (fStart p q o :: fs) w (some false) σ none).step =
    st c t lim start ls must p q handed o fs (w - 1) (some false) σ none := by
  rw [st_pop]
  show (if q < ls then _ else _) = _
  rw [if_neg h]; rfl
/-- a trial at s -/
theorem st_attemptAt {s : Nat} {first : Bool} : M.attemptAt (st c t lim start ls must pc pos handed om [] 0 none σ none) s first =
    st c t lim s ls must pc s s first [fStart pc s first] 1 none σ none := rfl

abbrev kept0 : Sre.Kept := { lastmark := -1, lastindex := -1, whole := false, marks := #[] }
abbrev fBranch (alt pos : Nat) (om : Bool) : Sre.Frame := { wait := .nextBranch, pc := alt, pos := pos, outermost := om, kept := kept0 }
abbrev fLook (pc pos : Nat) (om : Bool) : Sre.Frame := { wait := .lookNot, pc := pc, pos := pos, outermost := om, kept := kept0 }
abbrev fBack (pc pos : Nat) (om : Bool) (n : Int) : Sre.Frame := { wait := .giveBack, pc := pc, pos := pos, outermost := om, count := n, kept := kept0 }
theorem alt_go {alt : Nat} (h : c.getD alt 0 ≠ 0) (hw : w + 1 ≤ 16777216) : M.alternative (st c t lim start ls must pc pos handed om fs w none σ none) alt kept0 =
    st c t lim start ls must (alt + 1) pos pos om (fBranch alt pos om :: fs) (w + 1) none σ none := by
  unfold M.alternative M.attempt
  have h' : (c.getD alt 0 == 0) = false := by simpa using h
  simp only [h', Bool.false_eq_true, if_false]
  exact if_neg (show ¬ (w + 1 + 0 > 16777216) by omega)
theorem st_branch (h0 : pc < c.size) (h1 : ops[c.getD pc 0]? = some .BRANCH) (h2 : c.getD (pc + 1) 0 ≠ 0) (hw : w + 1 ≤ 16777216) :
    (st c t lim start ls must pc pos handed om fs w none σ none).step = st c t lim start ls must (pc + 2) pos pos om (fBranch (pc + 1) pos om :: fs) (w + 1) none (σ.add (c.getD pc 0)) none := by
  rw [step_exec rfl rfl h0]
  unfold M.exec
  simp only [M.word, Nat.add_zero, h1]
  exact alt_go h2 hw
theorem st_branch_yes {a p : Nat} {o : Bool} : (st c t lim start ls must pc pos handed om (fBranch a p o :: fs) w (some true) σ none).step =
    st c t lim start ls must a p handed o fs (w - 1) (some true) σ none := rfl
theorem st_branch_no {a p : Nat} {o : Bool} (h : c.getD (a + c.getD a 0) 0 ≠ 0) (hw : w - 1 + 1 ≤ 16777216) : (st c t lim start ls must pc pos handed om (fBranch a p o :: fs) w (some false) σ none).step =
    st c t lim start ls must (a + c.getD a 0 + 1) p p o (fBranch (a + c.getD a 0) p o :: fs) (w - 1 + 1) none σ none := by
  rw [st_pop]
  exact alt_go h hw
theorem st_look (h0 : pc < c.size) (h1 : ops[c.getD pc 0]? = some .ASSERT_NOT) (h2 : c.getD (pc + 2) 0 = 0) (hw : w + 1 ≤ 16777216) :
    (st c t lim start ls must pc pos handed om fs w none σ none).step = st c t lim start ls must (pc + 3) pos pos false (fLook pc pos om :: fs) (w + 1) none (σ.add (c.getD pc 0)) none := by
  rw [step_exec rfl rfl h0]
  unfold M.exec
  simp only [M.word, Nat.add_zero, h1, h2, Nat.not_lt_zero, if_false, Nat.sub_zero]
  unfold M.attempt
  exact if_neg (show ¬ (w + 1 + 0 > 16777216) by omega)
theorem st_look_no {a p : Nat} {o : Bool} : (st c t lim start ls must pc pos handed om (fLook a p o :: fs) w (some false) σ none).step =
    st c t lim start ls must (a + 1 + c.getD (a + 1) 0) p handed o fs (w - 1) none σ none := rfl
theorem st_back_yes {a p : Nat} {o : Bool} {n : Int} : (st c t lim start ls must pc pos handed om (fBack a p o n :: fs) w (some true) σ none).step =
    st c t lim start ls must a p handed o fs (w - 1) (some true) σ none := rfl
theorem st_back_no {a p : Nat} {o : Bool} {n : Int} (h : n - 1 < c.getD (a + 2) 0) : (st c t lim start ls must pc pos handed om (fBack a p o n :: fs) w (some false) σ none).step =
    st c t lim start ls must a p handed o fs (w - 1) (some false) σ none := by
  rw [st_pop]
  show (if n - 1 < c.getD (a + 2) 0 then _ else _) = _
  rw [if_pos h]; rfl
theorem st_rep {least most n : Nat} {σ' : Seen} (h0 : pc < c.size) (h1 : ops[c.getD pc 0]? = some .REPEAT_ONE) (h2 : c.getD (pc + 2) 0 = least) (h3 : c.getD (pc + 3) 0 = most)
    (hr : least + pos ≤ lim) (hrun : Sre.run c t (pc + 4) (min most (lim - pos)) pos 0 ((σ.add (c.getD pc 0)).add (c.getD (pc + 4) 0)) = .ok (n, σ')) (hw : w + 1 ≤ 16777216) :
    (st c t lim start ls must pc pos handed om fs w none σ none).step = if n < least then st c t lim start ls must pc pos handed om fs w (some false) σ' none
      else st c t lim start ls must (pc + 1 + c.getD (pc + 1) 0) (pos + n) (pos + n) om (fBack pc (pos + n) om n :: fs) (w + 1) none σ' none := by
  rw [step_exec rfl rfl h0]
  unfold M.exec
  simp only [M.word, Nat.add_zero, h1, h2, h3, Bool.false_eq_true, if_false]
  rw [if_neg (show ¬ ((least : Int) > (lim : Int) - pos) by omega)]
  have e : ((lim : Int) - pos).toNat = lim - pos := by omega
  rw [e, hrun]
  simp only []
  by_cases hn : n < least
  · rw [if_pos hn, if_pos hn]; rfl
  · rw [if_neg hn, if_neg hn]
    unfold M.afterRun M.attempt
    exact if_neg (show ¬ (w + 1 + 0 > 16777216) by omega)
theorem st_rep_none {least : Nat} (h0 : pc < c.size) (h1 : ops[c.getD pc 0]? = some .REPEAT_ONE) (h2 : c.getD (pc + 2) 0 = least) (hr : ¬ least + pos ≤ lim) :
    (st c t lim start ls must pc pos handed om fs w none σ none).step = st c t lim start ls must pc pos handed om fs w (some false) (σ.add (c.getD pc 0)) none := by
  rw [step_exec rfl rfl h0]
  unfold M.exec
  simp only [M.word, Nat.add_zero, h1, h2]
  rw [if_pos (show ((least : Int) > (lim : Int) - pos) by omega)]
  rfl
end
end Mine
end
section
open PySem PySem.Sre
set_option maxRecDepth 100000
set_option linter.unusedVariables false
namespace Mine
section
variable {t : Array Nat} {ls s w : Nat} {om : Bool} {σ : Seen}

theorem acc0 (c : Nat) (σ : Seen) : ∃ σ', accepts c0 15 c σ = .ok (isDigit c, σ') := by
  cases h : isDigit c with
  | true => exact ⟨_, by
      show inSet c0 c 24 17 true σ = _
      show (category 0 c >>= fun b => if b = true then pure (true, _) else _) = _
      have : category 0 c = .ok true := by show Except.map (· != false) (.ok (isDigit c)) = _; rw [h]; rfl
      rw [this]; rfl⟩
  | false => exact ⟨_, by
      show inSet c0 c 24 17 true σ = _
      show (category 0 c >>= fun b => if b = true then pure (true, _) else _) = _
      have : category 0 c = .ok false := by show Except.map (· != false) (.ok (isDigit c)) = _; rw [h]; rfl
      rw [this]; rfl⟩
theorem run_succ (c t : Array Nat) (i n p f : Nat) (σ : Seen) {b : Bool} {σ' : Seen} (h : accepts c i (t.getD p 0) σ = .ok (b, σ')) :
    Sre.run c t i (n + 1) p f σ = if b then Sre.run c t i n (p + 1) (f + 1) σ' else .ok (f, σ') := by
  show (accepts c i (t.getD p 0) σ >>= fun x => if x.1 = true then Sre.run c t i n (p + 1) (f + 1) x.2 else pure (f, x.2)) = _
  rw [h]; rfl
theorem run0 {n p : Nat} (hn : 1 ≤ n) (hd : isDigit (t.getD p 0) = true → isDigit (t.getD (p + 1) 0) = false) (σ : Seen) :
    ∃ σ', Sre.run c0 t 15 n p 0 σ = .ok (if isDigit (t.getD p 0) then 1 else 0, σ') := by
  obtain ⟨k, rfl⟩ : ∃ k, n = k + 1 := ⟨n - 1, by omega⟩
  obtain ⟨σ1, e1⟩ := acc0 (t.getD p 0) σ
  rw [run_succ _ _ _ _ _ _ _ e1]
  cases h : isDigit (t.getD p 0) with
  | false => exact ⟨σ1, rfl⟩
  | true =>
    rw [if_pos rfl, if_pos rfl]
    cases k with
    | zero => exact ⟨σ1, rfl⟩
    | succ j =>
      obtain ⟨σ2, e2⟩ := acc0 (t.getD (p + 1) 0) σ1
      rw [run_succ _ _ _ _ _ _ _ e2, hd h]
      exact ⟨σ2, rfl⟩

abbrev P0 (t : Array Nat) (ls s : Nat) (om : Bool) (σ : Seen) : M := st c0 t t.size s ls false 9 s s om [fStart 9 s om] 1 none σ none
def hit0 (t : Array Nat) (s : Nat) : Prop := t.getD s 0 = 46 ∧ isDigit (t.getD (s + 1) 0) = true ∧ s + 2 = t.size

theorem at5 {c : Array Nat} {lim start ls pc pos handed : Nat} {must : Bool} {fs : List Sre.Frame} {a : Option Bool} (hn : t.getD pos 0 ≠ 10) :
    M.isAt (st c t lim start ls must pc pos handed om fs w a σ none) 5 = .ok (decide (pos = lim)) := by
  show Except.ok (pos == lim || (pos + 1 == lim && t.getD pos 0 == 10)) = _
  have : (t.getD pos 0 == 10) = false := by simpa using hn
  rw [this, Bool.and_false, Bool.or_false]
  congr 1
theorem trial0 (hl : t.size < 4294967295) (hN : ∀ i, t.getD i 0 ≠ 10) (hD : ∀ i, isDigit (t.getD i 0) = true → isDigit (t.getD (i + 1) 0) = false) :
    (hit0 t s → ∃ m', Gets 10 (P0 t ls s om σ) m' ∧ m'.outcome = some .matched) ∧
    (¬ hit0 t s → ∃ pc pos handed om' σ', Gets 10 (P0 t ls s om σ) (st c0 t t.size s ls false pc pos handed om' [fStart 9 s om] 1 (some false) σ' none)) := by
  by_cases h46 : s < t.size ∧ t.getD s 0 = 46
  · have g1 := Gets.step (st_lit (c := c0) (t := t) (lim := t.size) (start := s) (ls := ls) (must := false) (pc := 9) (pos := s) (handed := s) (om := om) (fs := [fStart 9 s om]) (w := 1) (σ := σ) (x := 46) (by decide) rfl rfl h46.1 h46.2)
    by_cases hr : 1 + (s + 1) ≤ t.size
    · obtain ⟨σ1, e1⟩ := run0 (t := t) (n := min 4294967295 (t.size - (s + 1))) (p := s + 1) (by omega) (hD (s + 1)) (((σ.add (c0.getD 9 0)).add (c0.getD 11 0)).add (c0.getD 15 0))
      have g2 := Gets.step (st_rep (c := c0) (t := t) (lim := t.size) (start := s) (ls := ls) (must := false) (pc := 11) (pos := s + 1) (handed := s) (om := om) (fs := [fStart 9 s om]) (w := 1) (σ := σ.add (c0.getD 9 0)) (least := 1) (most := 4294967295) (by decide) rfl rfl rfl hr e1 (by omega))
      cases hd : isDigit (t.getD (s + 1) 0) with
      | false =>
        refine ⟨fun h => absurd h.2.1 (by rw [hd]; decide), fun _ => ?_⟩
        rw [hd] at g2
        exact ⟨_, _, _, _, _, (g1.trans g2).mono (by omega)⟩
      | true =>
        rw [hd] at g2
        have e : s + 1 + 1 = s + 2 := rfl
        by_cases hend : s + 2 = t.size
        · refine ⟨fun _ => ?_, fun h => absurd ⟨h46.2, hd, hend⟩ h⟩
          have g3 := Gets.step (st_at (c := c0) (t := t) (lim := t.size) (start := s) (ls := ls) (must := false) (pc := 21) (pos := s + 1 + 1) (handed := s + 1 + 1) (om := om) (fs := [fBack 11 (s + 1 + 1) om 1, fStart 9 s om]) (w := 2) (σ := σ1) (by decide) rfl rfl (at5 (hN _)))
          rw [decide_eq_true (show s + 1 + 1 = t.size from hend)] at g3
          have g4 := Gets.step (st_success (c := c0) (t := t) (lim := t.size) (start := s) (ls := ls) (pc := 23) (pos := s + 1 + 1) (handed := s + 1 + 1) (om := om) (fs := [fBack 11 (s + 1 + 1) om 1, fStart 9 s om]) (w := 2) (σ := (σ1.add (c0.getD 21 0)).add (43 + 5)) (by decide) rfl)
          have g5 := g4.trans (Gets.step st_back_yes)
          have g6 := (g5.trans (Gets.step st_start_yes)).trans (Gets.step st_out)
          exact ⟨_, (((g1.trans g2).trans g3).trans g6).mono (by omega), rfl⟩
        · refine ⟨fun h => absurd h.2.2 hend, fun _ => ?_⟩
          have g3 := Gets.step (st_at (c := c0) (t := t) (lim := t.size) (start := s) (ls := ls) (must := false) (pc := 21) (pos := s + 1 + 1) (handed := s + 1 + 1) (om := om) (fs := [fBack 11 (s + 1 + 1) om 1, fStart 9 s om]) (w := 2) (σ := σ1) (by decide) rfl rfl (at5 (hN _)))
          rw [decide_eq_false (show ¬ s + 1 + 1 = t.size from hend)] at g3
          have g4 := Gets.step (st_back_no (c := c0) (t := t) (lim := t.size) (start := s) (ls := ls) (must := false) (pc := 21) (pos := s + 1 + 1) (handed := s + 1 + 1) (om := om) (fs := [fStart 9 s om]) (w := 2) (σ := (σ1.add (c0.getD 21 0)).add (43 + 5)) (a := 11) (p := s + 1 + 1) (o := om) (n := 1) (by decide))
          exact ⟨_, _, _, _, _, (((g1.trans g2).trans g3).trans g4).mono (by omega)⟩
    · refine ⟨fun h => absurd h.2.2 (by omega), fun _ => ?_⟩
      have g2 := Gets.step (st_rep_none (c := c0) (t := t) (lim := t.size) (start := s) (ls := ls) (must := false) (pc := 11) (pos := s + 1) (handed := s) (om := om) (fs := [fStart 9 s om]) (w := 1) (σ := σ.add (c0.getD 9 0)) (least := 1) (by decide) rfl rfl hr)
      exact ⟨_, _, _, _, _, (g1.trans g2).mono (by omega)⟩
  · refine ⟨fun h => absurd ⟨by have := h.2.2; omega, h.1⟩ h46, fun _ => ?_⟩
    have g1 := Gets.step (st_lit_no (c := c0) (t := t) (lim := t.size) (start := s) (ls := ls) (must := false) (pc := 9) (pos := s) (handed := s) (om := om) (fs := [fStart 9 s om]) (w := 1) (σ := σ) (x := 46) (by decide) rfl rfl (fun hp h => h46 ⟨hp, h⟩))
    exact ⟨_, _, _, _, _, g1.mono (by omega)⟩
end
def ip (t : Array Nat) : Bool := decide (2 ≤ t.size) && (t.getD (t.size - 2) 0 == 46) && isDigit (t.getD (t.size - 1) 0)
theorem ip_hit {t : Array Nat} : ip t = true ↔ ∃ s, hit0 t s := by
  unfold ip hit0
  simp only [Bool.and_eq_true, decide_eq_true_eq, beq_iff_eq]
  constructor
  · rintro ⟨⟨h1, h2⟩, h3⟩
    exact ⟨t.size - 2, h2, by rw [show t.size - 2 + 1 = t.size - 1 by omega]; exact h3, by omega⟩
  · rintro ⟨s, h1, h2, h3⟩
    have e1 : t.size - 2 = s := by omega
    have e2 : t.size - 1 = s + 1 := by omega
    rw [e1, e2]
    exact ⟨⟨by omega, h1⟩, h2⟩
section
variable {t : Array Nat}
theorem go0 (hl : t.size < 4294967295) (hN : ∀ i, t.getD i 0 ≠ 10) (hD : ∀ i, isDigit (t.getD i 0) = true → isDigit (t.getD (i + 1) 0) = false) :
    ∀ (k s : Nat) (om : Bool) (σ : Seen), s + k = t.size → (∀ i, i < s → ¬ hit0 t i) → ∃ m', Gets (12 * k + 12) (P0 t t.size s om σ) m' ∧ m'.outcome = some (if ip t then .matched else .failed)
  | k, s, om, σ, hk, hb => by
    have T := trial0 (t := t) (ls := t.size) (s := s) (om := om) (σ := σ) hl hN hD
    by_cases h : hit0 t s
    · obtain ⟨m', g, ho⟩ := T.1 h
      rw [ip_hit.mpr ⟨s, h⟩]
      exact ⟨m', g.mono (by omega), ho⟩
    · obtain ⟨pc, pos, handed, om', σ', g⟩ := T.2 h
      match k, hk with
      | 0, hk =>
        have g2 := (g.trans (Gets.step (st_start_end (by omega)))).trans (Gets.step st_out)
        refine ⟨_, g2.mono (by omega), ?_⟩
        have : ip t = false := by
          cases q : ip t with
          | false => rfl
          | true =>
            obtain ⟨i, hi⟩ := ip_hit.mp q
            have := hi.2.2
            exact absurd hi (hb i (by omega))
        rw [this]
      | k + 1, hk =>
        have g2 := g.trans (Gets.step (st_start_no (by omega)))
        obtain ⟨m', g3, ho⟩ := go0 hl hN hD k (s + 1) false σ' (by omega) (fun i hi => by
          by_cases q : i = s
          · rw [q]; exact h
          · exact hb i (by omega))
        exact ⟨m', (g2.trans g3).mono (by omega), ho⟩
theorem search0 (hl : t.size < 4294967295) (hN : ∀ i, t.getD i 0 ≠ 10) (hD : ∀ i, isDigit (t.getD i 0) = true → isDigit (t.getD (i + 1) 0) = false) :
    ∃ m', Gets (12 * t.size + 12) (forSearch c0 t 0 0 t.size false) m' ∧ m'.outcome = some (if ip t then .matched else .failed) := by
  by_cases h2 : t.size < 2
  · have e : forSearch c0 t 0 0 t.size false = st c0 t t.size 0 0 false 9 0 0 true [] 0 (some false) (({} : Seen).add 14) none := by
      show (if (decide (0 > t.size) || decide (t.size - 0 < 2)) = true then _ else _) = _
      rw [if_pos (by simp; omega)]; rfl
    rw [e]
    have : ip t = false := by
      unfold ip; rw [decide_eq_false (by omega)]; rfl
    rw [this]
    exact ⟨_, (Gets.step st_out).mono (by omega), rfl⟩
  · have e : forSearch c0 t 0 0 t.size false = P0 t t.size 0 true (({} : Seen).add 14) := by
      show (if (decide (0 > t.size) || decide (t.size - 0 < 2)) = true then _ else _) = _
      rw [if_neg (by simp; omega)]; rfl
    rw [e]
    exact go0 hl hN hD t.size 0 true _ (by omega) (fun i hi => absurd hi (by omega))
end
end Mine
end
section
open PySem PySem.Sre
set_option maxRecDepth 100000
set_option linter.unusedVariables false
namespace Mine
section
variable {t : Array Nat} {ls s w : Nat} {om : Bool} {σ : Seen}
-- '(?m)^\.'
abbrev P1 (t : Array Nat) (ls s : Nat) (om : Bool) (σ : Seen) : M := st c1 t t.size s ls false 5 s s om [fStart 5 s om] 1 none σ none
def hit1 (t : Array Nat) (s : Nat) : Prop := (s = 0 ∨ t.getD (s - 1) 0 = 10) ∧ s < t.size ∧ t.getD s 0 = 46
theorem at1 {c : Array Nat} {lim start ls pc pos handed : Nat} {must : Bool} {fs : List Sre.Frame} {a : Option Bool} :
    M.isAt (st c t lim start ls must pc pos handed om fs w a σ none) 1 = .ok (decide (pos = 0 ∨ t.getD (pos - 1) 0 = 10)) := by
  show Except.ok (pos == 0 || t.getD (pos - 1) 0 == 10) = _
  congr 1
  rw [Bool.eq_iff_iff]
  simp
theorem trial1 :
    (hit1 t s → ∃ m', Gets 10 (P1 t ls s om σ) m' ∧ m'.outcome = some .matched ∧ m'.start = s ∧ m'.handed = s + 1) ∧
    (¬ hit1 t s → ∃ pc pos handed om' σ', Gets 10 (P1 t ls s om σ) (st c1 t t.size s ls false pc pos handed om' [fStart 5 s om] 1 (some false) σ' none)) := by
  have g1 := Gets.step (st_at (c := c1) (t := t) (lim := t.size) (start := s) (ls := ls) (must := false) (pc := 5) (pos := s) (handed := s) (om := om) (fs := [fStart 5 s om]) (w := 1) (σ := σ) (by decide) rfl rfl at1)
  by_cases ha : s = 0 ∨ t.getD (s - 1) 0 = 10
  · rw [decide_eq_true ha] at g1
    by_cases hb : s < t.size ∧ t.getD s 0 = 46
    · refine ⟨fun _ => ?_, fun h => absurd ⟨ha, hb.1, hb.2⟩ h⟩
      have g2 := g1.trans (Gets.step (st_lit (c := c1) (t := t) (lim := t.size) (start := s) (ls := ls) (must := false) (pc := 7) (pos := s) (handed := s) (om := om) (fs := [fStart 5 s om]) (w := 1) (x := 46) (by decide) rfl rfl hb.1 hb.2))
      have g3 := g2.trans (Gets.step (st_success (c := c1) (pc := 9) (by decide) rfl))
      have g4 := (g3.trans (Gets.step st_start_yes)).trans (Gets.step st_out)
      exact ⟨_, g4.mono (by omega), rfl, rfl, rfl⟩
    · refine ⟨fun h => absurd h.2 hb, fun _ => ?_⟩
      have g2 := g1.trans (Gets.step (st_lit_no (c := c1) (t := t) (lim := t.size) (start := s) (ls := ls) (must := false) (pc := 7) (pos := s) (handed := s) (om := om) (fs := [fStart 5 s om]) (w := 1) (x := 46) (by decide) rfl rfl (fun hp h => hb ⟨hp, h⟩)))
      exact ⟨_, _, _, _, _, g2.mono (by omega)⟩
  · rw [decide_eq_false ha] at g1
    refine ⟨fun h => absurd h.1 ha, fun _ => ⟨_, _, _, _, _, g1.mono (by omega)⟩⟩
/-- the search comes to a trial at s, if nothing hits ahead of it -/
theorem reach1 : ∀ (k s : Nat) (om : Bool) (σ : Seen), s + k ≤ t.size → (∀ i, s ≤ i → i < s + k → ¬ hit1 t i) → ∃ om' σ', Gets (12 * k) (P1 t t.size s om σ) (P1 t t.size (s + k) om' σ')
  | 0, s, om, σ, _, _ => ⟨om, σ, Gets.refl _⟩
  | k + 1, s, om, σ, hk, hb => by
    obtain ⟨pc, pos, handed, om', σ', g⟩ := (trial1 (t := t) (ls := t.size) (s := s) (om := om) (σ := σ)).2 (hb s (by omega) (by omega))
    have g2 := g.trans (Gets.step (st_start_no (by omega)))
    obtain ⟨om'', σ'', g3⟩ := reach1 k (s + 1) false σ' (by omega) (fun i h1 h2 => hb i (by omega) (by omega))
    refine ⟨om'', σ'', ?_⟩
    have e : s + 1 + k = s + (k + 1) := by omega
    rw [e] at g3
    exact (g2.trans g3).mono (by omega)
theorem start1 (h : s < t.size) : forSearch c1 t 0 s t.size false = P1 t t.size s true (({} : Seen).add 14) := by
  show (if (decide (s > t.size) || decide (t.size - s < 1)) = true then _ else _) = _
  rw [if_neg (by simp; omega)]; rfl
theorem start1e (h : ¬ s < t.size) : forSearch c1 t 0 s t.size false = st c1 t t.size s 0 false 5 s s true [] 0 (some false) (({} : Seen).add 14) none := by
  show (if (decide (s > t.size) || decide (t.size - s < 1)) = true then _ else _) = _
  rw [if_pos (by simp; omega)]; rfl
theorem search1_hit {e : Nat} (hs : s ≤ e) (hb : ∀ i, s ≤ i → i < e → ¬ hit1 t i) (h : hit1 t e) :
    ∃ m', Gets (12 * t.size + 12) (forSearch c1 t 0 s t.size false) m' ∧ m'.outcome = some .matched ∧ m'.start = e ∧ m'.handed = e + 1 := by
  have he := h.2.1
  rw [start1 (by omega)]
  obtain ⟨om', σ', g⟩ := reach1 (t := t) (e - s) s true (({} : Seen).add 14) (by omega) (fun i h1 h2 => hb i h1 (by omega))
  rw [show s + (e - s) = e by omega] at g
  obtain ⟨m', g2, h1, h2, h3⟩ := (trial1 (t := t) (ls := t.size) (s := e) (om := om') (σ := σ')).1 h
  exact ⟨m', (g.trans g2).mono (by omega), h1, h2, h3⟩
theorem search1_none (hb : ∀ i, s ≤ i → ¬ hit1 t i) :
    ∃ m', Gets (12 * t.size + 12) (forSearch c1 t 0 s t.size false) m' ∧ m'.outcome = some .failed := by
  by_cases h : s < t.size
  · rw [start1 h]
    obtain ⟨om', σ', g⟩ := reach1 (t := t) (t.size - s) s true (({} : Seen).add 14) (by omega) (fun i h1 h2 => hb i h1)
    rw [show s + (t.size - s) = t.size by omega] at g
    obtain ⟨pc, pos, handed, om'', σ'', g2⟩ := (trial1 (t := t) (ls := t.size) (s := t.size) (om := om') (σ := σ')).2 (hb _ (by omega))
    have g3 := (g2.trans (Gets.step (st_start_end (by omega)))).trans (Gets.step st_out)
    exact ⟨_, (g.trans g3).mono (by omega), rfl⟩
  · rw [start1e h]
    exact ⟨_, (Gets.step st_out).mono (by omega), rfl⟩

-- '(?:\r\n|\n|\r(?!\n))'
abbrev P2 (t : Array Nat) (ls s : Nat) (om : Bool) (σ : Seen) : M := st c2 t t.size s ls false 10 s s om [fStart 10 s om] 1 none σ none
def hit2 (t : Array Nat) (s : Nat) : Prop := s < t.size ∧ (t.getD s 0 = 10 ∨ t.getD s 0 = 13)
def w2 (t : Array Nat) (s : Nat) : Nat := if t.getD s 0 = 13 ∧ s + 1 < t.size ∧ t.getD (s + 1) 0 = 10 then 2 else 1
theorem trial2 (h : hit2 t s) : ∃ m', Gets 20 (P2 t ls s om σ) m' ∧ m'.outcome = some .matched ∧ m'.start = s ∧ m'.handed = s + w2 t s := by
  have g1 := Gets.step (st_branch (c := c2) (t := t) (lim := t.size) (start := s) (ls := ls) (must := false) (pc := 10) (pos := s) (handed := s) (om := om) (fs := [fStart 10 s om]) (w := 1) (σ := σ) (by decide) rfl (by decide) (by omega))
  rcases h.2 with h10 | h13
  · have e : w2 t s = 1 := if_neg (fun q => by have := q.1; omega)
    rw [e]
    have g2 := g1.trans (Gets.step (st_lit_no (c := c2) (pc := 12) (x := 13) (by decide) rfl rfl (fun _ q => by omega)))
    have g3 := g2.trans (Gets.step (st_branch_no (by decide) (by omega)))
    have g4 := g3.trans (Gets.step (st_lit (c := c2) (pc := 19) (x := 10) (by decide) rfl rfl h.1 h10))
    have g5 := g4.trans (Gets.step (st_jump (c := c2) (pc := 21) (by decide) rfl))
    have g6 := g5.trans (Gets.step (st_success (c := c2) (pc := 35) (by decide) rfl))
    have g7 := ((g6.trans (Gets.step st_branch_yes)).trans (Gets.step st_start_yes)).trans (Gets.step st_out)
    exact ⟨_, g7.mono (by omega), rfl, rfl, rfl⟩
  · have g2 := g1.trans (Gets.step (st_lit (c := c2) (pc := 12) (x := 13) (by decide) rfl rfl h.1 h13))
    by_cases h2 : s + 1 < t.size ∧ t.getD (s + 1) 0 = 10
    · have e : w2 t s = 2 := if_pos ⟨h13, h2⟩
      rw [e]
      have g3 := g2.trans (Gets.step (st_lit (c := c2) (pc := 14) (x := 10) (by decide) rfl rfl h2.1 h2.2))
      have g5 := g3.trans (Gets.step (st_jump (c := c2) (pc := 16) (by decide) rfl))
      have g6 := g5.trans (Gets.step (st_success (c := c2) (pc := 35) (by decide) rfl))
      have g7 := ((g6.trans (Gets.step st_branch_yes)).trans (Gets.step st_start_yes)).trans (Gets.step st_out)
      exact ⟨_, g7.mono (by omega), rfl, rfl, rfl⟩
    · have e : w2 t s = 1 := if_neg (fun q => h2 q.2)
      rw [e]
      have g3 := g2.trans (Gets.step (st_lit_no (c := c2) (pc := 14) (x := 10) (by decide) rfl rfl (fun p q => h2 ⟨p, q⟩)))
      have g4 := g3.trans (Gets.step (st_branch_no (by decide) (by omega)))
      have g5 := g4.trans (Gets.step (st_lit_no (c := c2) (pc := 19) (x := 10) (by decide) rfl rfl (fun _ q => by omega)))
      have g6 := g5.trans (Gets.step (st_branch_no (by decide) (by omega)))
      have g7 := g6.trans (Gets.step (st_lit (c := c2) (pc := 24) (x := 13) (by decide) rfl rfl h.1 h13))
      have g8 := g7.trans (Gets.step (st_look (c := c2) (pc := 26) (by decide) rfl rfl (by omega)))
      have g9 := g8.trans (Gets.step (st_lit_no (c := c2) (pc := 29) (x := 10) (by decide) rfl rfl (fun p q => h2 ⟨p, q⟩)))
      have g10 := g9.trans (Gets.step st_look_no)
      have g11 := g10.trans (Gets.step (st_jump (c := c2) (pc := 32) (by decide) rfl))
      have g12 := g11.trans (Gets.step (st_success (c := c2) (pc := 35) (by decide) rfl))
      have g13 := ((g12.trans (Gets.step st_branch_yes)).trans (Gets.step st_start_yes)).trans (Gets.step st_out)
      exact ⟨_, g13.mono (by omega), rfl, rfl, rfl⟩
theorem set2 (c : Nat) (σ : Seen) : ∃ σ', inSet c2 c 36 5 true σ = .ok (decide (c = 10 ∨ c = 13), σ') := by
  by_cases h1 : c = 10
  · subst h1; exact ⟨_, rfl⟩
  · by_cases h2 : c = 13
    · subst h2; exact ⟨_, rfl⟩
    · refine ⟨((σ.add 16).add 16).add 0, ?_⟩
      show (if (c == 10) = true then _ else (if (c == 13) = true then _ else _)) = _
      rw [if_neg (by simpa using h1), if_neg (by simpa using h2), decide_eq_false (by omega)]
      rfl
theorem admit2 {m : M} (hc : m.code = c2) : ∀ (k fuel s : Nat) (σ : Seen), k < fuel → s + k ≤ m.lim → (∀ i, s ≤ i → i < s + k → ¬ (m.text.getD i 0 = 10 ∨ m.text.getD i 0 = 13)) →
    (s + k = m.lim ∨ (m.text.getD (s + k) 0 = 10 ∨ m.text.getD (s + k) 0 = 13)) → ∃ σ', M.admitted m fuel s σ = .ok (if s + k = m.lim then none else some (s + k), σ')
  | 0, fuel + 1, s, σ, hf, hk, hb, he => by
    unfold M.admitted
    by_cases q : s = m.lim
    · rw [if_pos (by omega)]
      simp only [Nat.add_zero]
      rw [if_pos q]
      exact ⟨σ, rfl⟩
    · simp only [Nat.add_zero]
      rw [if_neg (by omega), if_neg q, hc]
      obtain ⟨σ', e⟩ := set2 (m.text.getD s 0) σ
      rw [decide_eq_true (by rcases he with h | h; · omega
                             · exact h)] at e
      have e' : inSet c2 (m.text.getD s 0) c2.size 5 true σ = .ok (true, σ') := e
      rw [e']
      exact ⟨σ', rfl⟩
  | k + 1, fuel + 1, s, σ, hf, hk, hb, he => by
    unfold M.admitted
    rw [if_neg (by omega), hc]
    obtain ⟨σ', e⟩ := set2 (m.text.getD s 0) σ
    rw [decide_eq_false (hb s (by omega) (by omega))] at e
    have e' : inSet c2 (m.text.getD s 0) c2.size 5 true σ = .ok (false, σ') := e
    rw [e']
    obtain ⟨σ'', e2⟩ := admit2 hc k fuel (s + 1) σ' (by omega) (by omega) (fun i h1 h2 => hb i (by omega) (by omega)) (by rw [show s + 1 + k = s + (k + 1) by omega]; exact he)
    rw [show s + 1 + k = s + (k + 1) by omega] at e2
    exact ⟨σ'', e2⟩
theorem from2 {s : Nat} {om : Bool} {σ : Seen} : M.attemptFrom (st c2 t t.size s t.size false 10 s s om [] 0 none σ none) s om = match M.admitted (st c2 t t.size s t.size false 10 s s om [] 0 none σ none) (t.size + 1 - s) s σ with
    | .ok (some s', σ') => P2 t t.size s' om σ'
    | .ok (none, σ') => st c2 t t.size s t.size false 10 s s om [] 0 (some false) σ' none
    | .error why => (st c2 t t.size s t.size false 10 s s om [] 0 none σ none).stick why := by
  show (match M.admitted (st c2 t t.size s t.size false 10 s s om [] 0 none σ none) (t.size + 1 - s) s σ with | .ok (some s', σ') => _ | .ok (none, σ') => _ | .error why => _) = _
  split <;> rfl
theorem start2 (h : s < t.size) : forSearch c2 t 0 s t.size false = M.attemptFrom (st c2 t t.size s t.size false 10 s s true [] 0 none (({} : Seen).add 14) none) s true := by
  show (if (decide (s > t.size) || decide (t.size - s < 1)) = true then _ else _) = _
  rw [if_neg (by simp; omega)]; rfl
theorem start2e (h : ¬ s < t.size) : forSearch c2 t 0 s t.size false = st c2 t t.size s 0 false 10 s s true [] 0 (some false) (({} : Seen).add 14) none := by
  show (if (decide (s > t.size) || decide (t.size - s < 1)) = true then _ else _) = _
  rw [if_pos (by simp; omega)]; rfl
theorem search2_hit {e : Nat} (hs : s ≤ e) (hb : ∀ i, s ≤ i → i < e → ¬ hit2 t i) (h : hit2 t e) :
    ∃ m', Gets (12 * t.size + 20) (forSearch c2 t 0 s t.size false) m' ∧ m'.outcome = some .matched ∧ m'.start = e ∧ m'.handed = e + w2 t e := by
  have he := h.1
  rw [start2 (by omega), from2]
  obtain ⟨σ', q⟩ := admit2 (m := st c2 t t.size s t.size false 10 s s true [] 0 none (({} : Seen).add 14) none) rfl (e - s) (t.size + 1 - s) s (({} : Seen).add 14) (by omega) (show s + (e - s) ≤ t.size by omega)
    (fun i h1 h2 q => hb i h1 (by omega) ⟨by omega, q⟩) (.inr (by rw [show s + (e - s) = e by omega]; exact h.2))
  rw [show s + (e - s) = e by omega, if_neg (show ¬ e = t.size by omega)] at q
  rw [q]
  obtain ⟨m', g2, h1, h2, h3⟩ := trial2 (ls := t.size) (om := true) (σ := σ') h
  exact ⟨m', g2.mono (by omega), h1, h2, h3⟩
theorem search2_none (hb : ∀ i, s ≤ i → ¬ hit2 t i) :
    ∃ m', Gets (12 * t.size + 20) (forSearch c2 t 0 s t.size false) m' ∧ m'.outcome = some .failed := by
  by_cases h : s < t.size
  · rw [start2 h, from2]
    obtain ⟨σ', q⟩ := admit2 (m := st c2 t t.size s t.size false 10 s s true [] 0 none (({} : Seen).add 14) none) rfl (t.size - s) (t.size + 1 - s) s (({} : Seen).add 14) (by omega) (show s + (t.size - s) ≤ t.size by omega)
      (fun i h1 h2 q => hb i h1 ⟨by omega, q⟩) (.inl (show s + (t.size - s) = t.size by omega))
    rw [if_pos (show s + (t.size - s) = t.size by omega)] at q
    rw [q]
    exact ⟨_, (Gets.step st_out).mono (by omega), rfl⟩
  · rw [start2e h]
    exact ⟨_, (Gets.step st_out).mono (by omega), rfl⟩
end
end Mine
end
section
open PySem PySem.W PySem.Calls PySem.Spec PyProof.Rows
open PySem.Builtin.Re
set_option maxRecDepth 100000
set_option linter.unusedVariables false
namespace Mine
theorem runFor_its (n : Nat) : ∀ m : Sre.M, Sre.M.runFor n m = its n m := by
  induction n with
  | zero => intro m; rfl
  | succ n ih =>
    intro m
    unfold Sre.M.runFor
    by_cases h : m.outcome.isSome = true
    · rw [if_pos h]
      have fix : m.step = m := by unfold Sre.M.step; rw [if_pos h]
      have : ∀ k, its k m = m := by
        intro k
        induction k with
        | zero => rfl
        | succ k ih => show its k m.step = m; rw [fix, ih]
      rw [this]
    · rw [if_neg h, ih]; rfl
theorem its_fix {m : Sre.M} (h : m.outcome.isSome = true) (k : Nat) : its k m = m := by
  have fix : m.step = m := by unfold Sre.M.step; rw [if_pos h]
  induction k with
  | zero => rfl
  | succ k ih => show its k m.step = m; rw [fix, ih]
section
variable {M : Model} {A : Around} {E : Value → Shared → Prop} {s : Shared}
theorem drive_wp : ∀ (turns k : Nat) (m m' : Sre.M) {Q : Sre.M → Shared → Prop}, k < 4 * turns → its k m = m' → m'.outcome.isSome = true → Q m' s → wpAny M A (reDrive turns m) Q E s
  | 0, k, m, m', Q, hk, _, _, _ => absurd hk (by omega)
  | n + 1, k, m, m', Q, hk, he, ho, hQ => by
    unfold reDrive
    show wpAny M A (if (Sre.M.runFor 4 m).outcome.isSome = true then pure (Sre.M.runFor 4 m) else (rule "sre.turn" >>= fun _ => reDrive n (Sre.M.runFor 4 m))) Q E s
    rw [runFor_its]
    by_cases h4 : k ≤ 4
    · have e : its 4 m = m' := by
        rw [show 4 = k + (4 - k) by omega, its_add, he]; exact its_fix ho _
      rw [e, if_pos ho]
      exact wpAny_pure hQ
    · have e : its (k - 4) (its 4 m) = m' := by rw [← its_add, show 4 + (k - 4) = k by omega, he]
      by_cases h : (its 4 m).outcome.isSome = true
      · rw [if_pos h]
        have : its 4 m = m' := by rw [← e, its_fix h]
        rw [this]
        exact wpAny_pure hQ
      · rw [if_neg h]
        exact wpAny_bind (wpAny_rule (drive_wp n (k - 4) _ m' (by omega) e ho hQ))
theorem end_wp {n : Nat} {m m' : Sre.M} {Q : Option Sre.M → Shared → Prop} (g : Gets n m m') (hn : n < 2 ^ 60) {o : Sre.Outcome} (ho : m'.outcome = some o)
    (hQ : match o with | .matched => Q (some m') s | .failed => Q none s | .stuck _ => False) : wpAny M A (reRunToEnd m) Q E s := by
  obtain ⟨k, hk, e⟩ := g
  unfold reRunToEnd
  refine wpAny_bind (drive_wp (2 ^ 64) k m m' (by omega) e (by rw [ho]; rfl) ?_)
  refine wpAny_bind (wpAny_forIn_list _ (fun _ _ s' => s' = s) _ (fun x rest b s' hI => ?_) (fun b s' hI => ?_) _ _ rfl)
  · split
    · exact wpAny_bind (wpAny_rule (wpAny_pure hI))
    · exact wpAny_pure hI
  subst hI
  rw [ho]
  cases o with
  | matched => exact wpAny_pure hQ
  | failed => exact wpAny_pure hQ
  | stuck => exact hQ.elim
theorem end_yes {n : Nat} {m m' : Sre.M} {Q : Option Sre.M → Shared → Prop} (g : Gets n m m') (hn : n < 2 ^ 60) (ho : m'.outcome = some .matched) (hQ : Q (some m') s) : wpAny M A (reRunToEnd m) Q E s := end_wp g hn ho hQ
theorem end_no {n : Nat} {m m' : Sre.M} {Q : Option Sre.M → Shared → Prop} (g : Gets n m m') (hn : n < 2 ^ 60) (ho : m'.outcome = some .failed) (hQ : Q none s) : wpAny M A (reRunToEnd m) Q E s := end_wp g hn ho hQ
end
theorem named3 (id f : String) (v : Value) : reNamed id f ["string", "pos", "endpos"] 1 [v] [] = pure [some v, none, none] := rfl
theorem named_sub (id f : String) (a b : Value) : reNamed id f ["repl", "string", "count"] 2 [a, b] [] = pure [some a, some b, none] := rfl

structure IsPat (h : Heap) (p : Addr) (code : Array Nat) : Prop where
  ex : ∃ (vs : Array Value) (c : Addr) (xs : Array Value) (o : Obj) (n : Nat), h.get? p = some { cls := .type "re.Pattern", data := .fields vs } ∧ vs.getD 2 .none = .int 0 0 ∧ vs.getD 5 .none = .ref c ∧ vs.getD 6 .none = .int 0 0 ∧
    h.get? c = some o ∧ o.data = .seq xs n ∧ (xs.map reRawOf).map (·.toNat) = code
section
variable {prog : Program} {w : World} {A : Around} {E : Value → Shared → Prop} {s : Shared} {p : Addr} {code : Array Nat} {x : Str} {t : Tok}
theorem items_wp {M : Model} {c : Addr} {o : Obj} {xs : Array Value} {n : Nat} {Q : Array Int → Shared → Prop} (h1 : s.heap.get? c = some o) (h2 : o.data = .seq xs n) (h : Q (xs.map reRawOf) s) : wpAny M A (reRawItems (.ref c)) Q E s := by
  unfold reRawItems
  exact wpAny_bind (wpAny_seqItems h1 h2 (wpAny_pure h))
theorem target_wp {id f : String} {Q : ReTarget → Shared → Prop} (P : IsPat s.heap p code) (hl : x.cps.size < 2 ^ 60)
    (h : Q { pattern := .ref p, string := .str x t, code := code, text := x.cps, kind := 0, groups := 0, pos := 0, lim := x.cps.size } s) :
    wpAny (model prog w) A (reTarget id f ⟨[.ref p, .str x t], []⟩) Q E s := by
  obtain ⟨vs, c, xs, o, n, h1, h2, h5, h6, hc, hd, hx⟩ := P.ex
  unfold reTarget
  refine wpAny_bind (wpAny_of_eq (named3 id f (.str x t)) ?_)
  refine wpAny_bind (wpAny_pure ?_)
  refine wpAny_bind (wpAny_pure ?_)
  refine wpAny_bind (wpAny_fieldsOf h1 rfl ?_)
  refine wpAny_bind (m := reTextOf (.str x t)) (wpAny_bind (m := asStr? (.str x t)) (wpAny_pure (wpAny_pure ?_)))
  simp only [h6, h2, h5, reRawNat]
  rw [if_neg (by decide), if_neg (by decide)]
  refine wpAny_bind (m := reNoCollectionInside (.str x t) 0) (wpAny_pure ?_)
  refine wpAny_bind (items_wp hc hd (wpAny_pure ?_))
  have e1 : min (Int.toNat 0) x.cps.size = 0 := by simp
  have e2 : min (2 ^ 63 - 1 : Int).toNat x.cps.size = x.cps.size := by
    have : (2 ^ 63 - 1 : Int).toNat = 9223372036854775807 := by decide
    rw [this]; omega
  rw [hx, e1, e2]
  exact h
theorem whole_wp {Q : ReTarget → Shared → Prop} (P : IsPat s.heap p code)
    (h : Q { pattern := .ref p, string := .str x t, code := code, text := x.cps, kind := 0, groups := 0, pos := 0, lim := x.cps.size } s) :
    wpAny (model prog w) A (reWholeTarget (.ref p) (.str x t)) Q E s := by
  obtain ⟨vs, c, xs, o, n, h1, h2, h5, h6, hc, hd, hx⟩ := P.ex
  unfold reWholeTarget
  refine wpAny_bind (wpAny_fieldsOf h1 rfl ?_)
  refine wpAny_bind (m := reTextOf (.str x t)) (wpAny_bind (m := asStr? (.str x t)) (wpAny_pure (wpAny_pure ?_)))
  simp only [h6, h2, h5, reRawNat]
  rw [if_neg (by decide), if_neg (by decide)]
  refine wpAny_bind (m := reNoCollectionInside (.str x t) 0) (wpAny_pure ?_)
  refine wpAny_bind (items_wp hc hd (wpAny_pure ?_))
  rw [hx]
  exact h
theorem newMatch_wp {M : Model} {pt sv : Value} {po li : Nat} {m : Sre.M} {Q : Value → Shared → Prop}
    (h : ∀ a h' o, (∀ b o, s.heap.get? b = some o → h'.get? b = some o) → h'.get? a = some o → o.cls = .type "re.Match" → Q (.ref a) { s with heap := h' }) : wpAny M A (reNewMatch pt sv 0 po li m) Q E s := by
  unfold reNewMatch
  show wpAny M A (newTuple _ >>= fun v => newFields "re.Match" _) Q E s
  refine wpAny_bind (wpAny_newTuple ?_ (by show 2 ≤ sizeLine; decide))
  refine wpAny_newObj_type ?_
  exact h _ _ _ (fun b o e => Heap.get?_push_of_some _ (Heap.get?_push_of_some _ e)) (Heap.get?_push_size _ rfl) rfl
theorem pat_type (P : IsPat s.heap p code) : s.TypeIs (.ref p) "re.Pattern" := by
  obtain ⟨vs, c, xs, o, n, h1, _⟩ := P.ex
  exact ⟨_, h1, rfl⟩
theorem search_wp {Q : Value → Shared → Prop} (P : IsPat s.heap p c0) (hl : x.cps.size < 1000000) (hN : ∀ i, x.cps.getD i 0 ≠ 10) (hD : ∀ i, Sre.isDigit (x.cps.getD i 0) = true → Sre.isDigit (x.cps.getD (i + 1) 0) = false)
    (hno : ip x.cps = false → Q .none s)
    (hyes : ip x.cps = true → ∀ a h' o, (∀ b o, s.heap.get? b = some o → h'.get? b = some o) → h'.get? a = some o → o.cls = .type "re.Match" → Q (.ref a) { s with heap := h' }) :
    wpAny (model prog w) A (call (.builtin "re.Pattern.search") [.ref p, .str x t]) Q E s := by
  refine wpAny_call_entry slot_search (pat_type P) entry_search ?_ (args_search _ _)
  unfold Builtin.«re.Pattern.search»
  refine wpAny_bind (target_wp P (by omega) ?_)
  unfold reAnswer
  obtain ⟨m', g, ho⟩ := search0 (t := x.cps) (by omega) hN hD
  cases hi : ip x.cps with
  | false =>
    rw [hi] at ho
    refine wpAny_bind (end_no g (by omega) ho ?_)
    exact wpAny_pure ⟨_, rfl, hno hi⟩
  | true =>
    rw [hi] at ho
    refine wpAny_bind (end_yes g (by omega) ho ?_)
    refine wpAny_bind (newMatch_wp fun a h' o k e c => ?_)
    exact wpAny_pure ⟨_, rfl, hyes hi a h' o k e c⟩
theorem truthy_match {M : Model} {a : Addr} {o : Obj} {Q : Bool → Shared → Prop} (ho : s.heap.get? a = some o) (hc : o.cls = .type "re.Match") (h : Q true s) : wpAny M A (truthy (.ref a)) Q E s := by
  have hT : s.TypeIs (.ref a) "re.Match" := ⟨_, ho, hc⟩
  unfold truthy
  first
    | refine wpAny_bind (wpAny_callSpecial?_none (name := Str.ofString "__bool__") hT noBool_match ?_)
    | refine wpAny_bind (wpAny_pure (wpAny_bind (wpAny_callSpecial?_none (name := Str.ofString "__bool__") hT noBool_match ?_)))
  first
    | refine wpAny_bind (wpAny_specialOf (name := Str.ofString "__len__") hT noLen_match ?_)
    | refine wpAny_bind (wpAny_pure (wpAny_bind (wpAny_specialOf (name := Str.ofString "__len__") hT noLen_match ?_)))
  exact wpAny_pure h
theorem getMethod_pat {M : Model} {name : Str} {id : String} {pl : Sem Bool} {Q : Value × List Value → Shared → Prop} (P : IsPat s.heap p code) (slot : Slot "re.Pattern" name id) (hty : typeOf (.builtin id) = pure (.type "method_descriptor"))
    (h : Q (.builtin id, [.ref p]) s) : wpAny M A (getMethod (.ref p) name pl) Q E s := by
  refine getMethod_builtin (pat_type P) plainAttrs_pat slot hty (fun a e => ?_) h
  obtain ⟨vs, c, xs, o, n, h1, _⟩ := P.ex
  cases e
  exact ⟨_, h1, rfl⟩
end
end Mine
end
section
open PySem PySem.W PySem.Calls PySem.Spec PyProof.Rows
open PySem.Builtin.Re
set_option maxRecDepth 100000
set_option linter.unusedVariables false
namespace Mine
theorem noCall_str : typeLookup (.type "str") "__call__" = pure none := by rw [typeLookup_type, builtinLookup_eq_fast]; kernel_rfl
theorem plain_subloop : plainId "re.Pattern.sub.loop" = true := by decide +kernel

structure Finds (code t : Array Nat) (nx : Nat → Option (Nat × Nat)) : Prop where
  yes : ∀ d b e, nx d = some (b, e) → ∃ m', Gets (12 * t.size + 20) (Sre.forSearch code t 0 d t.size false) m' ∧ m'.outcome = some .matched ∧ m'.start = b ∧ m'.handed = e
  no : ∀ d, nx d = none → ∃ m', Gets (12 * t.size + 20) (Sre.forSearch code t 0 d t.size false) m' ∧ m'.outcome = some .failed
  grows : ∀ d b e, nx d = some (b, e) → d ≤ b ∧ b < e ∧ e ≤ t.size

def sb (t : Array Nat) (r : List Nat) (nx : Nat → Option (Nat × Nat)) : Nat → Nat → List Nat
  | 0, _ => []
  | k + 1, d => match nx d with
    | none => t.toList.drop d
    | some (b, e) => (t.toList.drop d).take (b - d) ++ (r ++ sb t r nx k e)

def cat (ps : List (Str × Tok)) : List Nat := (ps.map fun p => p.1.cps.toList).flatten
theorem cat_push (ps : List (Str × Tok)) (y : Str) (u : Tok) : cat (ps ++ [(y, u)]) = cat ps ++ y.cps.toList := by
  unfold cat; simp
theorem strValues_push (ps : List (Str × Tok)) (y : Str) (u : Tok) : ((strValues ps).toArray).push (.str y u) = (strValues (ps ++ [(y, u)])).toArray := by
  unfold strValues; simp
theorem join_cat : ∀ ps : List (Str × Tok), (Txt.join ⟨#[]⟩ (ps.map (·.1))).cps.toList = cat ps := by
  intro ps
  unfold Txt.join
  rw [StrLaws.glued_eq_join]
  induction ps with
  | nil => rfl
  | cons p r ih =>
    cases r with
    | nil => simp [Str.join, cat]
    | cons q r =>
      show (p.1.cps ++ #[] ++ (Str.join ⟨#[]⟩ ((q :: r).map (fun z : Str × Tok => z.1))).cps).toList = _
      simp only [Array.append_empty, Array.toList_append]
      rw [ih]
      simp [cat]
theorem cat_len : ∀ ps : List (Str × Tok), ((ps.map (fun p : Str × Tok => p.1)).map (fun y : Str => y.length)).sum = (cat ps).length
  | [] => rfl
  | p :: r => by
    simp only [List.map_cons, List.sum_cons]
    rw [cat_len r]
    simp [cat, Str.length]
section
variable {prog : Program} {w : World} {A : Around} {E : Value → Shared → Prop} {s : Shared}
theorem push_wp {M : Model} {l : Addr} {items : Array Value} {v : Value} {Q : Unit → Shared → Prop} (hl : s.heap.IsList l items) (hsz : items.size ≤ sizeLine)
    (h : ∀ h', h'.IsList l (items.push v) → Heap.SameBut l s.heap h' → Q () { s with heap := h' }) : wpAny M A (updateSeq l (·.push v)) Q E s := by
  obtain ⟨o, ho, hc, n, hd⟩ := id hl
  obtain ⟨n', hd'⟩ := Obj.data_mapSeq hd (·.push v)
  refine wpAny_updateSeq ho hd (h _ ?_ (Heap.SameBut.update ..)) hsz (by simp; omega)
  exact ⟨_, Heap.get?_update_self _ ho (Obj.isFreed_of_seq hd'), (Obj.cls_mapSeq ..).trans hc, n', hd'⟩

/-- where the loop over the hits stands: the list of pieces -/
structure Lp (h₀ h : Heap) (l : Addr) (ps : List (Str × Tok)) : Prop where
  list : h.IsList l (strValues ps).toArray
  fresh : h₀.get? l = none
  keep : ∀ b o, h₀.get? b = some o → h.get? b = some o
theorem Lp.push {h₀ h h' : Heap} {l : Addr} {ps : List (Str × Tok)} {y : Str} {u : Tok} (L : Lp h₀ h l ps) (hl : h'.IsList l ((strValues ps).toArray.push (.str y u))) (hs : Heap.SameBut l h h') : Lp h₀ h' l (ps ++ [(y, u)]) :=
  ⟨by rw [← strValues_push]; exact hl, L.fresh, fun b o e => (hs.2 b (fun q => by rw [q, L.fresh] at e; cases e)).trans (L.keep b o e)⟩
theorem Lp.pushes {M : Model} {h₀ : Heap} {l : Addr} {ps : List (Str × Tok)} {y : Str} {u : Tok} {Q : Unit → Shared → Prop} (L : Lp h₀ s.heap l ps) (hsz : ps.length ≤ 1000000)
    (h : ∀ h', Lp h₀ h' l (ps ++ [(y, u)]) → Q () { s with heap := h' }) : wpAny M A (updateSeq l (·.push (.str y u))) Q E s :=
  push_wp L.list (by
    rw [List.size_toArray]; unfold strValues; rw [List.length_map]
    have : (1000000 : Nat) ≤ sizeLine := by decide
    omega) fun h' h1 h2 => h h' (L.push h1 h2)
theorem IsPat.keeps {h h' : Heap} {p : Addr} {code : Array Nat} (P : IsPat h p code) (k : ∀ b o, h.get? b = some o → h'.get? b = some o) : IsPat h' p code := by
  obtain ⟨vs, c, xs, o, n, h1, h2, h5, h6, hc, hd, hx⟩ := P.ex
  exact ⟨vs, c, xs, o, n, k _ _ h1, h2, h5, h6, k _ _ hc, hd, hx⟩

theorem slice_wp {M : Model} {t : Array Nat} {b e : Nat} {Q : Value → Shared → Prop} (hl : t.size < 1000000) (h : Q (.str ⟨t.extract b e⟩ s.toks) { s with toks := s.toks + 1 }) : wpAny M A (reSlice t 0 b e) Q E s := by
  show wpAny M A (mkStr ⟨t.extract b e⟩) Q E s
  refine wpAny_mkStr h ?_
  show (t.extract b e).size ≤ sizeLine
  rw [Array.size_extract]
  have : (1000000 : Nat) ≤ sizeLine := by decide
  omega
def tailTree (t : Array Nat) (l : Addr) : Sem PySem.Fin := do
  let joiner ← reSlice t 0 0 0
  let it ← seqItems? (.ref l)
  if (it.getD #[]).isEmpty = true then (pure joiner >>= fun text => ret text) else (call (.builtin "str.join") [joiner, .ref l] >>= fun text => ret text)
theorem tail_wp {t : Array Nat} {h₀ : Heap} {l : Addr} {ps : List (Str × Tok)} {Q : PySem.Fin → Shared → Prop} (hl : t.size < 1000000) (L : Lp h₀ s.heap l ps) (hc : (cat ps).length ≤ 16777216)
    (h : ∀ y u t', y.cps.toList = cat ps → Q (.done (.ret (.str y u))) { s with toks := t' }) : wpAny (model prog w) A (tailTree t l) Q E s := by
  unfold tailTree
  refine wpAny_bind (slice_wp hl ?_)
  obtain ⟨o, ho, hcl, n, hd⟩ := id L.list
  refine wpAny_bind (wpAny_seqItems ho hd ?_)
  cases ps with
  | nil =>
    show wpAny _ _ (if true = true then _ else _) _ _ _
    rw [if_pos rfl]
    refine wpAny_bind (wpAny_pure (wpAny_pure (h _ _ _ ?_)))
    show (t.extract 0 0).toList = []
    simp
  | cons q r =>
    show wpAny _ _ (if false = true then _ else _) _ _ _
    rw [if_neg (by decide)]
    have e0 : t.extract 0 0 = #[] := by simp
    rw [e0]
    refine wpAny_bind (SC.join (l := q :: r) L.list rfl ?_ fun t' k => ?_)
    · unfold JoinOk
      rw [StrLaws.joinTotal, cat_len]
      have e : (List.map (fun x => x.fst) (q :: r)).length * (({ cps := #[] } : Str).length) = 0 := by show _ * 0 = 0; rw [Nat.mul_zero]
      rw [e, Nat.add_zero]
      unfold Builtin.Str.tooLong
      have : sizeLine = 16777216 := by decide
      rw [this]
      simp
      omega
    · exact wpAny_pure (h _ _ _ (join_cat _))
def nextTree (p l : Addr) (x r : Str) (t tr : Tok) (n : Int) (b e : Nat) : Sem PySem.Fin := do
  updateSeq l (·.push (.str r tr))
  again (.builtin "re.Pattern.sub.loop" ⟨[.ref p, .str x t, .str r tr, rawInt 0, rawInt 0, rawInt (n + 1), rawInt e, rawInt e, .bool (e == b), .ref l, .bool false], []⟩)
theorem sub_loop {code : Array Nat} {x r : Str} {t tr : Tok} {p l : Addr} {nx : Nat → Option (Nat × Nat)} (F : Finds code x.cps nx) (hx : x.cps.size < 10000) (hr : r.cps.size < 100) {h₀ : Heap} (P : IsPat h₀ p code) :
    ∀ (k : Nat) (n : Int) (d : Nat) (ps : List (Str × Tok)) (s : Shared) (R : Result → Shared → Prop), x.cps.size - d < k → ps.length + 2 * k ≤ 100000 → (cat ps).length + (x.cps.size - d) + 100 * k ≤ 10000000 → Lp h₀ s.heap l ps →
      (∀ y u h' t', (∀ b o, h₀.get? b = some o → h'.get? b = some o) → y.cps.toList = cat ps ++ sb x.cps r.cps.toList nx k d → R (.ok (.ret (.str y u))) { s with heap := h', toks := t' }) →
      codeAny (model prog w) A (.builtin "re.Pattern.sub.loop" ⟨[.ref p, .str x t, .str r tr, rawInt 0, rawInt 0, rawInt n, rawInt d, rawInt d, .bool false, .ref l, .bool false], []⟩) R s
  | 0, n, d, ps, s, R, hk, _, _, L, hR => absurd hk (by omega)
  | k + 1, n, d, ps, s, R, hk, hps, hcat, L, hR => by
    refine codeAny_builtin entry_subloop ?_
    rw [Around.under_plainId plain_subloop]
    unfold Builtin.«re.Pattern.sub.loop»
    refine wpAny_bind (whole_wp (P.keeps L.keep) ?_)
    refine wpAny_bind (m := reLiteralCannotBeTurned (.str r tr)) (wpAny_bind (m := asStr? (.str r tr)) (wpAny_pure (wpAny_pure ?_)))
    cases hn : nx d with
    | none =>
      obtain ⟨m', g, ho⟩ := F.no d hn
      refine wpAny_bind (m := reNextFound _ _ _) (end_no g (by omega) ho ?_)
      have hsb : sb x.cps r.cps.toList nx (k + 1) d = x.cps.toList.drop d := by simp only [sb, hn]
      rw [hsb] at hR
      show wpAny _ _ (if d < x.cps.size then (reSlice x.cps 0 d x.cps.size >>= fun v => updateSeq l (·.push v) >>= fun _ => tailTree x.cps l) else tailTree x.cps l) _ _ _
      by_cases hd : d < x.cps.size
      · rw [if_pos hd]
        refine wpAny_bind (slice_wp (by omega) ?_)
        refine wpAny_bind (Lp.pushes L (by omega) fun h' L' => ?_)
        have ec : cat (ps ++ [(({ cps := x.cps.extract d x.cps.size } : Str), s.toks)]) = cat ps ++ x.cps.toList.drop d := by
          rw [cat_push]
          congr 1
          simp
          rw [List.take_of_length_le (by simp)]
        refine tail_wp (by omega) L' (by rw [ec, List.length_append, List.length_drop]; simp; omega) fun y u t' hy => ?_
        exact hR y u h' t' L'.keep (by rw [hy, ec])
      · rw [if_neg hd]
        refine tail_wp (by omega) L (by omega) fun y u t' hy => ?_
        refine hR y u s.heap t' L.keep (by rw [hy, List.drop_eq_nil_of_le (by simp; omega), List.append_nil])
    | some be =>
      obtain ⟨b, e⟩ := be
      obtain ⟨m', g, ho, hb, he⟩ := F.yes d b e hn
      refine wpAny_bind (m := reNextFound _ _ _) (end_yes g (by omega) ho ?_)
      obtain ⟨g1, g2, g3⟩ := F.grows d b e hn
      have hsb : sb x.cps r.cps.toList nx (k + 1) d = (x.cps.toList.drop d).take (b - d) ++ (r.cps.toList ++ sb x.cps r.cps.toList nx k e) := by simp only [sb, hn]
      rw [hsb] at hR
      show wpAny _ _ (if d < m'.start then (reSlice x.cps 0 d m'.start >>= fun v => updateSeq l (·.push v) >>= fun _ => nextTree p l x r t tr n m'.start m'.handed) else nextTree p l x r t tr n m'.start m'.handed) _ _ _
      rw [hb, he]
      have key : ∀ (qs : List (Str × Tok)) (h' : Heap) (tk : Nat), qs.length ≤ ps.length + 1 → cat qs = cat ps ++ (x.cps.toList.drop d).take (b - d) → Lp h₀ h' l qs →
          wpAny (model prog w) A.in1 (nextTree p l x r t tr n b e) (fun fin s' => match fin with | .done f => R (.ok f) s' | .again c' => c'.quiet = true ∧ codeAny (model prog w) A c' R s') (fun e s' => R (.error e) s') { s with heap := h', toks := tk } := by
        intro qs h' tk hq hcq L'
        unfold nextTree
        refine wpAny_bind (Lp.pushes (s := { s with heap := h', toks := tk }) L' (by omega) fun h'' L'' => ?_)
        refine wpAny_pure ⟨plainId_quiet plain_subloop _, ?_⟩
        have ebe : (e == b) = false := by rw [beq_eq_false_iff_ne]; omega
        rw [ebe]
        have ec : cat (qs ++ [(r, tr)]) = cat ps ++ (x.cps.toList.drop d).take (b - d) ++ r.cps.toList := by rw [cat_push, hcq]
        refine sub_loop F hx hr P k (n + 1) e (qs ++ [(r, tr)]) { s with heap := h'', toks := tk } R (by omega) (by rw [List.length_append]; simp; omega) ?_ L'' fun y u h3 t3 k3 hy => ?_
        · rw [ec]
          simp only [List.length_append, List.length_take, List.length_drop, Array.length_toList]
          omega
        · refine hR y u h3 t3 k3 ?_
          rw [hy, ec]
          simp only [List.append_assoc]
      by_cases hd : d < b
      · rw [if_pos hd]
        refine wpAny_bind (slice_wp (by omega) ?_)
        refine wpAny_bind (Lp.pushes (s := { s with toks := s.toks + 1 }) L (by omega) fun h' L' => ?_)
        refine key _ h' _ (by rw [List.length_append]; simp) ?_ L'
        rw [cat_push]
        congr 1
        simp
      · rw [if_neg hd]
        refine key ps s.heap s.toks (by omega) ?_ L
        rw [show b - d = 0 by omega, List.take_zero, List.append_nil]
end
end Mine
end
section
open PySem PySem.W PySem.Calls PySem.Spec PyProof.Rows
open PySem.Builtin.Re
set_option maxRecDepth 100000
set_option linter.unusedVariables false
namespace Mine
section
variable {prog : Program} {w : World} {A : Around} {E : Value → Shared → Prop} {s : Shared}
theorem sub_wp {code : Array Nat} {x r : Str} {t tr : Tok} {p : Addr} {nx : Nat → Option (Nat × Nat)} {Q : Value → Shared → Prop} (F : Finds code x.cps nx) (hx : x.cps.size < 10000) (hr : r.cps.size < 100) (h92 : r.cps.contains 92 = false) (P : IsPat s.heap p code)
    (h : ∀ y u h' t', (∀ b o, s.heap.get? b = some o → h'.get? b = some o) → y.cps.toList = sb x.cps r.cps.toList nx (x.cps.size + 1) 0 → Q (.str y u) { s with heap := h', toks := t' }) :
    wpAny (model prog w) A (call (.builtin "re.Pattern.sub") [.ref p, .str r tr, .str x t]) Q E s := by
  refine wpAny_call (codeAny_call_builtin slot_sub.plain entry_sub (slot_sub.check _ _ _ _ _ _ _ _ (pat_type P) (args_sub _ _ _) ?_))
  show wpAny _ _ (reSubstitute "re.Pattern.sub" "sub" false _) _ _ _
  unfold reSubstitute
  refine wpAny_bind (wpAny_of_eq (named_sub _ _ (.str r tr) (.str x t)) ?_)
  refine wpAny_bind (wpAny_pure ?_)
  refine wpAny_bind (wpAny_specialOf (name := Str.ofString "__call__") (typeIs_str s r tr) noCall_str ?_)
  refine wpAny_bind (m := asStr? (.str r tr)) (wpAny_pure ?_)
  refine wpAny_bind (m := pure (!r.cps.contains 92)) (wpAny_pure ?_)
  show wpAny _ _ (if (!r.cps.contains 92) = true then (pure (Value.str r tr, 0) >>= _) else _) _ _ _
  rw [h92, if_pos (by decide)]
  refine wpAny_bind (wpAny_pure ?_)
  refine wpAny_bind (wpAny_holding (whole_wp P ?_))
  show wpAny _ _ (newList [] >>= fun l => again (.builtin "re.Pattern.sub.loop" ⟨[.ref p, .str x t, .str r tr, rawInt 0, rawInt 0, rawInt 0, rawInt 0, rawInt 0, .bool false, l, .bool false], []⟩)) _ _ _
  refine wpAny_bind (wpAny_newList ?_ (by decide))
  refine wpAny_pure ⟨plainId_quiet plain_subloop _, ?_⟩
  have fresh : s.heap.get? s.heap.objs.size = none := by
    cases q : s.heap.get? s.heap.objs.size with
    | none => rfl
    | some o => exact absurd (Heap.lt_size q) (Nat.lt_irrefl _)
  have L : Lp s.heap (s.heap.push { cls := .type "list", data := .seq (([] : List Value).toArray) }) s.heap.objs.size [] :=
    ⟨⟨_, Heap.get?_push_size _ rfl, rfl, _, rfl⟩, fresh, fun b o e => Heap.get?_push_of_some _ e⟩
  refine sub_loop F hx hr P (x.cps.size + 1) 0 0 [] _ _ (by omega) (by simp; omega) (by simp [cat]; omega) L fun y u h' t' k hy => ?_
  exact h y u h' t' k (by rw [hy]; rfl)
end
-- the hits, searched
def nxt (hit : Nat → Bool) : Nat → Nat → Option Nat
  | 0, _ => none
  | k + 1, d => if hit d = true then some d else nxt hit k (d + 1)
theorem nxt_some {hit : Nat → Bool} : ∀ {k d e : Nat}, nxt hit k d = some e → d ≤ e ∧ e < d + k ∧ hit e = true ∧ ∀ i, d ≤ i → i < e → hit i = false
  | 0, d, e, h => by cases h
  | k + 1, d, e, h => by
    unfold nxt at h
    by_cases q : hit d = true
    · rw [if_pos q] at h; cases h
      exact ⟨Nat.le_refl _, by omega, q, fun i h1 h2 => by omega⟩
    · rw [if_neg q] at h
      obtain ⟨h1, h2, h3, h4⟩ := nxt_some h
      refine ⟨by omega, by omega, h3, fun i i1 i2 => ?_⟩
      by_cases z : i = d
      · rw [z]; simpa using q
      · exact h4 i (by omega) i2
theorem nxt_none {hit : Nat → Bool} : ∀ {k d : Nat}, nxt hit k d = none → ∀ i, d ≤ i → i < d + k → hit i = false
  | 0, d, h, i, h1, h2 => by omega
  | k + 1, d, h, i, h1, h2 => by
    unfold nxt at h
    by_cases q : hit d = true
    · rw [if_pos q] at h; cases h
    · rw [if_neg q] at h
      by_cases z : i = d
      · rw [z]; simpa using q
      · exact nxt_none h i (by omega) (by omega)
def h1 (t : Array Nat) (s : Nat) : Bool := (s == 0 || t.getD (s - 1) 0 == 10) && decide (s < t.size) && t.getD s 0 == 46
theorem h1_iff {t : Array Nat} {s : Nat} : h1 t s = true ↔ hit1 t s := by
  unfold h1 hit1
  simp [and_assoc]
def h2 (t : Array Nat) (s : Nat) : Bool := decide (s < t.size) && (t.getD s 0 == 10 || t.getD s 0 == 13)
theorem h2_iff {t : Array Nat} {s : Nat} : h2 t s = true ↔ hit2 t s := by
  unfold h2 hit2
  simp
def nx1 (t : Array Nat) (d : Nat) : Option (Nat × Nat) := (nxt (h1 t) (t.size - d) d).map fun e => (e, e + 1)
def nx2 (t : Array Nat) (d : Nat) : Option (Nat × Nat) := (nxt (h2 t) (t.size - d) d).map fun e => (e, e + w2 t e)
theorem finds1 (t : Array Nat) : Finds c1 t (nx1 t) where
  yes := fun d b e h => by
    unfold nx1 at h
    obtain ⟨f, hf, he⟩ := Option.map_eq_some_iff.mp h
    cases he
    obtain ⟨a1, a2, a3, a4⟩ := nxt_some hf
    obtain ⟨m', g, r⟩ := search1_hit (t := t) (s := d) (e := b) a1 (fun i i1 i2 q => by have := a4 i i1 i2; rw [h1_iff.mpr q] at this; cases this) (h1_iff.mp a3)
    exact ⟨m', g.mono (by omega), r⟩
  no := fun d h => by
    unfold nx1 at h
    have hf := Option.map_eq_none_iff.mp h
    obtain ⟨m', g, r⟩ := search1_none (t := t) (s := d) (fun i i1 q => by
      have i2 := q.2.1
      have := nxt_none hf i i1 (by omega)
      rw [h1_iff.mpr q] at this; cases this)
    exact ⟨m', g.mono (by omega), r⟩
  grows := fun d b e h => by
    unfold nx1 at h
    obtain ⟨f, hf, he⟩ := Option.map_eq_some_iff.mp h
    cases he
    obtain ⟨a1, a2, a3, a4⟩ := nxt_some hf
    have := (h1_iff.mp a3).2.1
    omega
theorem w2_bounds {t : Array Nat} {e : Nat} (h : e < t.size) : 1 ≤ w2 t e ∧ e + w2 t e ≤ t.size := by
  by_cases q : t.getD e 0 = 13 ∧ e + 1 < t.size ∧ t.getD (e + 1) 0 = 10
  · have : w2 t e = 2 := if_pos q
    omega
  · have : w2 t e = 1 := if_neg q
    omega
theorem finds2 (t : Array Nat) : Finds c2 t (nx2 t) where
  yes := fun d b e h => by
    unfold nx2 at h
    obtain ⟨f, hf, he⟩ := Option.map_eq_some_iff.mp h
    cases he
    obtain ⟨a1, a2, a3, a4⟩ := nxt_some hf
    obtain ⟨m', g, r⟩ := search2_hit (t := t) (s := d) (e := b) a1 (fun i i1 i2 q => by have := a4 i i1 i2; rw [h2_iff.mpr q] at this; cases this) (h2_iff.mp a3)
    exact ⟨m', g.mono (by omega), r⟩
  no := fun d h => by
    unfold nx2 at h
    have hf := Option.map_eq_none_iff.mp h
    obtain ⟨m', g, r⟩ := search2_none (t := t) (s := d) (fun i i1 q => by
      have i2 := q.1
      have := nxt_none hf i i1 (by omega)
      rw [h2_iff.mpr q] at this; cases this)
    exact ⟨m', g.mono (by omega), r⟩
  grows := fun d b e h => by
    unfold nx2 at h
    obtain ⟨f, hf, he⟩ := Option.map_eq_some_iff.mp h
    cases he
    obtain ⟨a1, a2, a3, a4⟩ := nxt_some hf
    have := (h2_iff.mp a3).1
    have := w2_bounds this
    omega
-- what they make of a text, as functions of lists
def crlf : List Nat → List Nat
  | [] => []
  | 13 :: 10 :: r => 13 :: 10 :: crlf r
  | c :: r => if c = 10 ∨ c = 13 then 13 :: 10 :: crlf r else c :: crlf r
def dotq : Bool → List Nat → List Nat
  | _, [] => []
  | b, c :: r => if b = true ∧ c = 46 then 46 :: 46 :: dotq false r else c :: dotq (c == 10) r
theorem crlf_plain {c : Nat} {r : List Nat} (h : ¬ (c = 10 ∨ c = 13)) : crlf (c :: r) = c :: crlf r := by
  rw [crlf]
  · exact if_neg h
  · intro r' h1 h2; exact h (.inr h1)
theorem drop_getD (t : Array Nat) (d : Nat) (h : d < t.size) : t.toList.drop d = t.getD d 0 :: t.toList.drop (d + 1) := by
  rw [List.drop_eq_getElem_cons (by simpa using h)]
  congr 1
  simp [Array.getD, h]
theorem crlf_free (t : Array Nat) : ∀ (k d : Nat), d + k ≤ t.size → (∀ i, d ≤ i → i < d + k → h2 t i = false) → crlf (t.toList.drop d) = (t.toList.drop d).take k ++ crlf (t.toList.drop (d + k))
  | 0, d, _, _ => by simp
  | k + 1, d, hk, hb => by
    have e := drop_getD t d (by omega)
    have hn : ¬ (t.getD d 0 = 10 ∨ t.getD d 0 = 13) := fun q => by
      have := hb d (by omega) (by omega)
      rw [h2_iff.mpr ⟨by omega, q⟩] at this; cases this
    rw [e, crlf_plain hn, crlf_free t k (d + 1) (by omega) (fun i i1 i2 => hb i (by omega) (by omega)), List.take_succ_cons, List.cons_append]
    rw [show d + 1 + k = d + (k + 1) by omega]
theorem crlf_hit (t : Array Nat) {e : Nat} (h : h2 t e = true) : crlf (t.toList.drop e) = 13 :: 10 :: crlf (t.toList.drop (e + w2 t e)) := by
  have H := h2_iff.mp h
  have he := H.1
  have e1 := drop_getD t e he
  by_cases hw : t.getD e 0 = 13 ∧ e + 1 < t.size ∧ t.getD (e + 1) 0 = 10
  · have : w2 t e = 2 := if_pos hw
    rw [this, e1, drop_getD t (e + 1) hw.2.1, hw.1, hw.2.2, crlf]
  · have : w2 t e = 1 := if_neg hw
    rw [this, e1]
    rw [crlf]
    · rw [if_pos H.2]
    · intro r' q1 q2
      refine hw ⟨q1, ?_⟩
      have hl : e + 1 < t.size := by
        apply Nat.lt_of_not_le
        intro z
        rw [List.drop_eq_nil_of_le (by simpa using z)] at q2
        cases q2
      refine ⟨hl, ?_⟩
      rw [drop_getD t (e + 1) hl] at q2
      exact (List.cons.inj q2).1
theorem sb_crlf (t : Array Nat) : ∀ (k d : Nat), t.size - d < k → sb t [13, 10] (nx2 t) k d = crlf (t.toList.drop d)
  | 0, d, h => absurd h (by omega)
  | k + 1, d, h => by
    unfold sb
    cases hn : nx2 t d with
    | none =>
      show t.toList.drop d = _
      unfold nx2 at hn
      have hf := Option.map_eq_none_iff.mp hn
      by_cases hd : d ≤ t.size
      · rw [crlf_free t (t.size - d) d (by omega) (fun i i1 i2 => nxt_none hf i i1 i2)]
        rw [show d + (t.size - d) = t.size by omega]
        rw [List.drop_eq_nil_of_le (show t.toList.length ≤ t.size by simp), crlf, List.append_nil, List.take_of_length_le (by simp)]
      · rw [List.drop_eq_nil_of_le (by simp; omega)]; rfl
    | some be =>
      obtain ⟨b, e⟩ := be
      show (t.toList.drop d).take (b - d) ++ ([13, 10] ++ sb t [13, 10] (nx2 t) k e) = _
      have hn' := hn
      unfold nx2 at hn
      obtain ⟨f, hf, he⟩ := Option.map_eq_some_iff.mp hn
      cases he
      obtain ⟨a1, a2, a3, a4⟩ := nxt_some hf
      have hb := (h2_iff.mp a3).1
      have hw := w2_bounds hb
      rw [sb_crlf t k _ (by omega), crlf_free t (b - d) d (by omega) (fun i i1 i2 => a4 i i1 (by omega)), show d + (b - d) = b by omega, crlf_hit t a3]
      rfl
-- the dots
def st1 (t : Array Nat) (d : Nat) : Bool := d == 0 || t.getD (d - 1) 0 == 10
theorem dotq_free (t : Array Nat) : ∀ (k d : Nat), d + k ≤ t.size → (∀ i, d ≤ i → i < d + k → h1 t i = false) → dotq (st1 t d) (t.toList.drop d) = (t.toList.drop d).take k ++ dotq (st1 t (d + k)) (t.toList.drop (d + k))
  | 0, d, _, _ => by simp
  | k + 1, d, hk, hb => by
    have e := drop_getD t d (by omega)
    have hn : ¬ (st1 t d = true ∧ t.getD d 0 = 46) := fun q => by
      have := hb d (by omega) (by omega)
      unfold h1 at this
      have q1 : (d == 0 || t.getD (d - 1) 0 == 10) = true := q.1
      rw [q1, q.2, decide_eq_true (show d < t.size by omega)] at this
      cases this
    have es : st1 t (d + 1) = (t.getD d 0 == 10) := by
      unfold st1
      have : (d + 1 == 0) = false := by simp
      rw [this, Bool.false_or, Nat.add_sub_cancel]
    rw [e, dotq, if_neg hn, ← es, dotq_free t k (d + 1) (by omega) (fun i i1 i2 => hb i (by omega) (by omega)), List.take_succ_cons, List.cons_append]
    rw [show d + 1 + k = d + (k + 1) by omega]
theorem dotq_hit (t : Array Nat) {e : Nat} (h : h1 t e = true) : dotq (st1 t e) (t.toList.drop e) = 46 :: 46 :: dotq (st1 t (e + 1)) (t.toList.drop (e + 1)) := by
  have H := h1_iff.mp h
  have e1 := drop_getD t e H.2.1
  have es : st1 t e = true := by
    unfold st1
    rcases H.1 with q | q
    · rw [q]; rfl
    · rw [q]; simp
  have es1 : st1 t (e + 1) = false := by
    unfold st1
    rw [Nat.add_sub_cancel, H.2.2]
    simp
  rw [e1, dotq, if_pos ⟨es, H.2.2⟩, es1]
theorem sb_dotq (t : Array Nat) : ∀ (k d : Nat), t.size - d < k → sb t [46, 46] (nx1 t) k d = dotq (st1 t d) (t.toList.drop d)
  | 0, d, h => absurd h (by omega)
  | k + 1, d, h => by
    unfold sb
    cases hn : nx1 t d with
    | none =>
      show t.toList.drop d = _
      unfold nx1 at hn
      have hf := Option.map_eq_none_iff.mp hn
      by_cases hd : d ≤ t.size
      · rw [dotq_free t (t.size - d) d (by omega) (fun i i1 i2 => nxt_none hf i i1 i2)]
        rw [show d + (t.size - d) = t.size by omega]
        rw [List.drop_eq_nil_of_le (show t.toList.length ≤ t.size by simp), dotq, List.append_nil, List.take_of_length_le (by simp)]
      · rw [List.drop_eq_nil_of_le (by simp; omega)]; simp [dotq]
    | some be =>
      obtain ⟨b, e⟩ := be
      show (t.toList.drop d).take (b - d) ++ ([46, 46] ++ sb t [46, 46] (nx1 t) k e) = _
      have hn' := hn
      unfold nx1 at hn
      obtain ⟨f, hf, he⟩ := Option.map_eq_some_iff.mp hn
      cases he
      obtain ⟨a1, a2, a3, a4⟩ := nxt_some hf
      have hb := (h1_iff.mp a3).2.1
      rw [sb_dotq t k _ (by omega), dotq_free t (b - d) d (by omega) (fun i i1 i2 => a4 i i1 (by omega)), show d + (b - d) = b by omega, dotq_hit t a3]
      rfl
end Mine
end
section
open PySem PySem.W PySem.Calls PySem.Spec PyProof.Rows
set_option maxRecDepth 100000
set_option linter.unusedVariables false
namespace Mine
theorem offB0 : True ∨ (if True then True else True) := by (w_top off; first | (right; walk1; fail) | (left; trivial))
theorem fill0 : PySem.Challenge.rw_rl0028_01 = PySem.Challenge.rw_rl0028_01 ∧ Mine.hd.heap_39 = Mine.hd.heap_39 := by k_fill; exact ⟨rfl, rfl⟩
abbrev prg : Program := PySem.Challenge.pw_rl0028_01
noncomputable abbrev lse : List Str := looseW Mine.hd.view_39 [Str.ofString "IPV4_RE", Str.ofString "_twin_re_1", Str.ofString "_twin_re_2"]
abbrev Keeps (h h' : Heap) : Prop := ∀ b o, h.get? b = some o → h'.get? b = some o
structure Md (w : World) (h : Heap) : Prop where
  X : (Mine.hd.heap_39 w.params).In h
  T : ∃ mean mg mb, Top Mine.hd.view_39 lse mean mg mb h
theorem Md.keeps {w : World} {h h' : Heap} (M : Md w h) (k : Keeps h h') : Md w h' :=
  ⟨M.X.keeps k, let ⟨a, b, c, T⟩ := M.T; ⟨a, b, c, T.keeps k⟩⟩
theorem frKeeps {h₀ h h' : Heap} {L : Addr} {m : Str → Option Value} (F : Fr h₀ L h m) (k : Keeps h h') : Fr h₀ L h' m := ⟨F.ns.keeps k, fun b o e => k b o (F.keep b o e), F.above⟩
theorem newsKeeps {h₀ h h' : Heap} {L : Addr} {news : List (Addr × Obj)} (N : News h₀ L h news) (k : Keeps h h') : News h₀ L h' news := fun p hp => ⟨k _ _ (N p hp).1, (N p hp).2⟩

theorem call_md {w : World} {A : Around} {s : Shared} {Q : Value → Shared → Prop} {E : Value → Shared → Prop} {name qual : Str} {params : Arguments} {body : List Stmt} {scope : Scope} {dV kV doc pm cdv ct oc : Value} {an od : Option Addr} {osl : Array (Option Value)} {f : Addr} {args : Args} {binds : List (Str × Value)}
    (M : Md w s.heap) (ho : (Mine.hd.heap_39 w.params).lookup f = some ⟨oc, od, .func (fnOf name qual params body scope dV kV doc pm an cdv ct), osl⟩) (hcd : codeIn (Mine.hd.heap_39 w.params) cdv qual = true) (hroom : A.depth < recursionLimit)
    (hbind : BindsTo s (fnOf name qual params body scope dV kV doc pm an cdv ct) args binds) (hloc : ∀ y ∈ binds, scope.names.lookup y.1 = some .local)
    (h : ∀ L h₁, Fr s.heap L h₁ (fun y => binds.reverse.lookup y) → News s.heap L h₁ [] →
      wpAny (model prg w) (A.deeper (envOf qual scope L f cdv)) (execs body (envOf qual scope L f cdv))
        (fun fl s' => Q (match fl with | .ret v => v | _ => .none) s') (fun _ _ => False) { s with heap := h₁, toks := s.toks + binds.length })
    (hco : scope.isCoroutine = false := by rfl) (hgen : scope.isGenerator = false := by rfl) (hk : scope.kind = .function := by rfl)
    (hcell : ∀ x ∈ scope.names, x.2 ≠ .cell := by decide) : wpAny (model prg w) A (call (.ref f) args.pos args.kw) Q E s := by
  refine wpAny_call ?_
  obtain ⟨_, _, _, T⟩ := M.T
  refine codeAny_call_def (fd := fnOf name qual params body scope dV kV doc pm an cdv ct) (body := body) (binds := binds) hroom (M.X _ _ ho) rfl T.nolimit (codeRec_of M.X hcd) rfl hbind hcell hloc (fun h₁ hns hk₁ => ?_) hco hgen hk
  exact wpAny_mono (h _ h₁ ⟨hns, hk₁, Nat.le_refl _⟩ News.nil) (fun fl s' q => q) (fun _ _ x => x.elim)
theorem pat0 {w : World} {h : Heap} (X : (Mine.hd.heap_39 w.params).In h) : IsPat h 36 c0 :=
  ⟨_, 35, _, _, _, X 36 _ rfl, rfl, rfl, rfl, X 35 _ rfl, rfl, by decide +kernel⟩
theorem pat1 {w : World} {h : Heap} (X : (Mine.hd.heap_39 w.params).In h) : IsPat h 69 c1 :=
  ⟨_, 68, _, _, _, X 69 _ rfl, rfl, rfl, rfl, X 68 _ rfl, rfl, by decide +kernel⟩
theorem pat2 {w : World} {h : Heap} (X : (Mine.hd.heap_39 w.params).In h) : IsPat h 74 c2 :=
  ⟨_, 73, _, _, _, X 74 _ rfl, rfl, rfl, rfl, X 73 _ rfl, rfl, by decide +kernel⟩
/-- what is asked of a text that is searched -/
structure Nice (x : Str) : Prop where
  len : x.cps.size < 5000
  al : ∀ i, x.cps.getD i 0 ≠ 10
  two : ∀ i, Sre.isDigit (x.cps.getD i 0) = true → Sre.isDigit (x.cps.getD (i + 1) 0) = false
end Mine
end
section
open PySem PySem.W PySem.Calls PySem.Spec PyProof.Rows
set_option maxRecDepth 100000
set_option linter.unusedVariables false
namespace Mine
theorem offB1 : True ∨ (if True then True else True) := by (w_top off; first | (right; walk1; fail) | (left; trivial))
section
variable {w : World} {A : Around} {E : Value → Shared → Prop} {s : Shared} {h₀ : Heap} {L : Addr} {m : Str → Option Value} {news : List (Addr × Obj)}
theorem search_fr {prog : Program} {x : Str} {t : Tok} {Q : Value → Shared → Prop} (X : (Mine.hd.heap_39 w.params).In h₀) (F : Fr h₀ L s.heap m) (N : News h₀ L s.heap news) (hx : Nice x)
    (hno : ip x.cps = false → Q .none s) (hyes : ip x.cps = true → ∀ a h' o, Fr h₀ L h' m → News h₀ L h' news → h'.get? a = some o → o.cls = .type "re.Match" → Q (.ref a) { s with heap := h' }) :
    wpAny (model prog w) A (call (.builtin "re.Pattern.search") [.ref 36, .str x t]) Q E s :=
  search_wp ((pat0 X).keeps F.keep) (Nat.lt_trans hx.len (by decide)) hx.al hx.two hno fun h a h' o k e c => hyes h a h' o (frKeeps F k) (newsKeeps N k) e c
theorem search_get {prog : Program} {pl : Sem Bool} {Q : Value × List Value → Shared → Prop} (X : (Mine.hd.heap_39 w.params).In h₀) (F : Fr h₀ L s.heap m) (h : Q (.builtin "re.Pattern.search", [.ref 36]) s) :
    wpAny (model prog w) A (getMethod (.ref 36) "search" pl) Q E s := getMethod_pat ((pat0 X).keeps F.keep) slot_search type_search h
end
local macro_rules | `(tactic| walk_at "getMethod ref") => `(tactic| (refine search_get (by assumption) (by assumption) ?_))
local macro_rules | `(tactic| walk_at "call builtin:re.Pattern.search") => `(tactic| (refine search_fr (by assumption) (by assumption) (by assumption) (by assumption) (fun hip => ?_) (fun hip am hm om km em cm cc => ?_)))
local macro_rules | `(tactic| walk_at "truthy ref") => `(tactic| (refine truthy_match (by assumption) (by assumption) ?_))
section
variable {w : World} {A : Around} {E : Value → Shared → Prop} {s : Shared} {Q : Value → Shared → Prop} {x a b : Str} {t ta tb : Tok}
theorem lib_spec (M : Md w s.heap) (hd : A.depth + 3 < recursionLimit) (hx : Nice x)
   (k : ∀ b h' t', Keeps s.heap h' → b = (!ip x.cps) → Q (.bool b) { s with heap := h', toks := t' }) : wpAny (model prg w) A (call (.ref 57) [.str x t]) Q E s := by
  refine call_md (args := ⟨[.str x t], []⟩) (binds := [(Str.ofString "text", .str x t)]) M (by k_is) (by k_is) (by omega) (BindsTo.of_eq rfl) (locs rfl) ?_
  intro L h₁ F N
  obtain ⟨_, _, _, T⟩ := M.T
  have X := M.X
  k_steps
  all_goals (show Q _ _; exact k _ _ _ (Fr.keep (by assumption)) (by simp [*]))
def hdn (x : Str) : Bool := !ip x.cps && !(x == Str.ofString "") && !(Txt.item x 0 == Str.ofString ".") && !(Txt.item x (-1) == Str.ofString ".")
theorem hdn_spec (M : Md w s.heap) (hd : A.depth + 3 < recursionLimit) (hx : Nice x)
   (k : ∀ b h' t', Keeps s.heap h' → b = hdn x → Q (.bool b) { s with heap := h', toks := t' }) : wpAny (model prg w) A (call (.ref 43) [.str x t]) Q E s := by
  refine call_md (args := ⟨[.str x t], []⟩) (binds := [(Str.ofString "text", .str x t)]) M (by k_is) (by k_is) (by omega) (BindsTo.of_eq rfl) (locs rfl) ?_
  intro L h₁ F N
  obtain ⟨_, _, _, T⟩ := M.T
  have X := M.X
  k_steps
  all_goals (show Q _ _; exact k _ _ _ (Fr.keep (by assumption)) (by simp [hdn, *]))
theorem md_of {mean : ExcName → Option Value} {mg mb : Str → Option Value} {h₀ h : Heap} {L : Addr} {m : Str → Option Value} (X : (Mine.hd.heap_39 w.params).In h₀) (T : Top Mine.hd.view_39 lse mean mg mb h₀) (F : Fr h₀ L h m) : Md w h := Md.keeps ⟨X, _, _, _, T⟩ F.keep
theorem lib_fr {mean : ExcName → Option Value} {mg mb : Str → Option Value} {h₀ : Heap} {L : Addr} {m : Str → Option Value} {news : List (Addr × Obj)} (X : (Mine.hd.heap_39 w.params).In h₀) (T : Top Mine.hd.view_39 lse mean mg mb h₀) (F : Fr h₀ L s.heap m) (N : News h₀ L s.heap news)
    (hd : A.depth + 3 < recursionLimit) (hx : Nice x) (k : ∀ b h' t', Fr h₀ L h' m → News h₀ L h' news → b = (!ip x.cps) → Q (.bool b) { s with heap := h', toks := t' }) : wpAny (model prg w) A (call (.ref 57) [.str x t]) Q E s :=
  lib_spec (md_of X T F) hd hx fun b h' t' q e => k b h' t' (frKeeps F q) (newsKeeps N q) e
theorem hdn_fr {mean : ExcName → Option Value} {mg mb : Str → Option Value} {h₀ : Heap} {L : Addr} {m : Str → Option Value} {news : List (Addr × Obj)} (X : (Mine.hd.heap_39 w.params).In h₀) (T : Top Mine.hd.view_39 lse mean mg mb h₀) (F : Fr h₀ L s.heap m) (N : News h₀ L s.heap news)
    (hd : A.depth + 3 < recursionLimit) (hx : Nice x) (k : ∀ b h' t', Fr h₀ L h' m → News h₀ L h' news → b = hdn x → Q (.bool b) { s with heap := h', toks := t' }) : wpAny (model prg w) A (call (.ref 43) [.str x t]) Q E s :=
  hdn_spec (md_of X T F) hd hx fun b h' t' q e => k b h' t' (frKeeps F q) (newsKeeps N q) e
end
end Mine
end
section
open PySem PySem.W PySem.Calls PySem.Spec PyProof.Rows
set_option maxRecDepth 100000
set_option linter.unusedVariables false
namespace Mine
theorem offB2 : True ∨ (if True then True else True) := by (w_top off; first | (right; walk1; fail) | (left; trivial))
local macro_rules | `(tactic| walk_at "call ref") => `(tactic| (refine lib_fr (by assumption) (by assumption) (by assumption) (by assumption) (by simp only [depth_deeper]; omega) (by assumption) (fun bb hh tt FF NN ee => ?_)))
local macro_rules | `(tactic| walk_at "call ref") => `(tactic| (refine hdn_fr (by assumption) (by assumption) (by assumption) (by assumption) (by simp only [depth_deeper]; omega) (by assumption) (fun bb hh tt FF NN ee => ?_)))
section
variable {w : World} {A : Around} {E : Value → Shared → Prop} {s : Shared} {Q : Value → Shared → Prop} {a b : Str} {ta tb : Tok}
def userM (a b : Str) : Bool := if (!ip a.cps && !ip b.cps) = true then (if Txt.startswith b (Str.ofString ".") = true then Txt.endswith a b else a == b) else a == b
theorem user_spec (M : Md w s.heap) (hd : A.depth + 6 < recursionLimit) (ha : Nice (Txt.lower a)) (hb : Nice (Txt.lower b)) (la : a.length ≤ 1000) (lb : b.length ≤ 1000) 
   (k : ∀ r h' t', Keeps s.heap h' → r = userM (Txt.lower a) (Txt.lower b) → Q (.bool r) { s with heap := h', toks := t' }) : wpAny (model prg w) A (call (.ref 64) [.str a ta, .str b tb]) Q E s := by
  refine call_md (args := ⟨[.str a ta, .str b tb], []⟩) (binds := [(Str.ofString "A", .str a ta), (Str.ofString "B", .str b tb)]) M (by k_is) (by k_is) (by omega) (BindsTo.of_eq rfl) (locs rfl) ?_
  intro L h₁ F N
  obtain ⟨_, _, _, T⟩ := M.T
  have X := M.X
  k_steps
  all_goals (show Q _ _; refine k _ _ _ (Fr.keep (by assumption)) ?_; clear k; subst_vars; unfold userM; simp [*])
def domM (a b : Str) : Bool := if (a == b) = true then true else if hdn a = true then (if Txt.rfind a b = -1 then false else if Txt.rfind a b = 0 then false else if Txt.startswith b (Str.ofString ".") = true then hdn (Txt.slice b (some 1) none) else false) else false
theorem dom_spec (M : Md w s.heap) (hd : A.depth + 6 < recursionLimit) (ha : Nice (Txt.lower a)) (hb : Nice (Txt.lower b)) (hb1 : Nice (Txt.slice (Txt.lower b) (some 1) none)) (la : a.length ≤ 1000) (lb : b.length ≤ 1000) 
   (k : ∀ r h' t', Keeps s.heap h' → r = domM (Txt.lower a) (Txt.lower b) → Q (.bool r) { s with heap := h', toks := t' }) : wpAny (model prg w) A (call (.ref 50) [.str a ta, .str b tb]) Q E s := by
  refine call_md (args := ⟨[.str a ta, .str b tb], []⟩) (binds := [(Str.ofString "A", .str a ta), (Str.ofString "B", .str b tb)]) M (by k_is) (by k_is) (by omega) (BindsTo.of_eq rfl) (locs rfl) ?_
  intro L h₁ F N
  obtain ⟨_, _, _, T⟩ := M.T
  have X := M.X
  k_steps
  all_goals (show Q _ _; refine k _ _ _ (Fr.keep (by assumption)) ?_; clear k; subst_vars; unfold domM; simp [*])
end
end Mine
end
section
open PySem PySem.W PySem.Calls PySem.Spec PyProof.Rows
set_option maxRecDepth 100000
set_option linter.unusedVariables false
namespace Mine
theorem offB3 : True ∨ (if True then True else True) := by (w_top off; first | (right; walk1; fail) | (left; trivial))
theorem crlf_len : ∀ l : List Nat, (crlf l).length ≤ 2 * l.length
  | [] => by simp [crlf]
  | 13 :: 10 :: r => by
    have := crlf_len r
    simp only [crlf, List.length_cons]; omega
  | c :: r => by
    by_cases q : ∃ r', c = 13 ∧ r = 10 :: r'
    · obtain ⟨r', rfl, rfl⟩ := q
      have := crlf_len r'
      simp only [crlf, List.length_cons]; omega
    · have := crlf_len r
      rw [crlf]
      · split <;> (simp only [List.length_cons]; omega)
      · intro r' h1 h2; exact q ⟨r', h1, h2⟩
section
variable {w : World} {A : Around} {E : Value → Shared → Prop} {s : Shared} {h₀ : Heap} {L : Addr} {m : Str → Option Value} {news : List (Addr × Obj)} {prog : Program}
theorem sub2_fr {x : Str} {t tr : Tok} {Q : Value → Shared → Prop} (X : (Mine.hd.heap_39 w.params).In h₀) (F : Fr h₀ L s.heap m) (N : News h₀ L s.heap news) (hx : x.cps.size < 4000)
    (k : ∀ y u h' t', Fr h₀ L h' m → News h₀ L h' news → y.cps.toList = crlf x.cps.toList → y.cps.size < 9000 → Q (.str y u) { s with heap := h', toks := t' }) :
    wpAny (model prog w) A (call (.builtin "re.Pattern.sub") [.ref 74, .str (Str.ofString "\r\n") tr, .str x t]) Q E s := by
  refine sub_wp (finds2 x.cps) (by omega) (by decide) (by decide +kernel) ((pat2 X).keeps F.keep) fun y u h' t' q hy => ?_
  have e : (Str.ofString "\r\n").cps.toList = [13, 10] := by decide +kernel
  rw [e, sb_crlf x.cps _ 0 (by omega), List.drop_zero] at hy
  refine k y u h' t' (frKeeps F q) (newsKeeps N q) hy ?_
  have := crlf_len x.cps.toList
  rw [← hy] at this
  simp at this
  omega
theorem sub1_fr {x : Str} {t tr : Tok} {Q : Value → Shared → Prop} (X : (Mine.hd.heap_39 w.params).In h₀) (F : Fr h₀ L s.heap m) (N : News h₀ L s.heap news) (hx : x.cps.size < 9000)
    (k : ∀ y u h' t', Fr h₀ L h' m → News h₀ L h' news → y.cps.toList = dotq true x.cps.toList → Q (.str y u) { s with heap := h', toks := t' }) :
    wpAny (model prog w) A (call (.builtin "re.Pattern.sub") [.ref 69, .str (Str.ofString "..") tr, .str x t]) Q E s := by
  refine sub_wp (finds1 x.cps) (by omega) (by decide) (by decide +kernel) ((pat1 X).keeps F.keep) fun y u h' t' q hy => ?_
  have e : (Str.ofString "..").cps.toList = [46, 46] := by decide +kernel
  rw [e, sb_dotq x.cps _ 0 (by omega), List.drop_zero] at hy
  exact k y u h' t' (frKeeps F q) (newsKeeps N q) hy
theorem sub_get {p : Addr} {c : Array Nat} {pl : Sem Bool} {Q : Value × List Value → Shared → Prop} (P : IsPat h₀ p c) (F : Fr h₀ L s.heap m) (h : Q (.builtin "re.Pattern.sub", [.ref p]) s) :
    wpAny (model prog w) A (getMethod (.ref p) "sub" pl) Q E s := getMethod_pat (P.keeps F.keep) slot_sub type_sub h
end
local macro_rules | `(tactic| walk_at "getMethod ref") => `(tactic| (refine sub_get (pat1 (by assumption)) (by assumption) ?_))
local macro_rules | `(tactic| walk_at "getMethod ref") => `(tactic| (refine sub_get (pat2 (by assumption)) (by assumption) ?_))
local macro_rules | `(tactic| walk_at "call builtin:re.Pattern.sub") => `(tactic| (refine sub2_fr (by assumption) (by assumption) (by assumption) (by assumption) (fun yy uu hh tt FF NN ee el => ?_)))
local macro_rules | `(tactic| walk_at "call builtin:re.Pattern.sub") => `(tactic| (refine sub1_fr (by assumption) (by assumption) (by assumption) (by assumption) (fun yy uu hh tt FF NN ee => ?_)))
section
variable {w : World} {A : Around} {E : Value → Shared → Prop} {s : Shared} {Q : Value → Shared → Prop} {x : Str} {t : Tok}
theorem quote_spec (M : Md w s.heap) (hd : A.depth + 6 < recursionLimit) (hx : x.cps.size < 4000)
   (k : ∀ y u h' t', Keeps s.heap h' → y.cps.toList = dotq true (crlf x.cps.toList) → Q (.str y u) { s with heap := h', toks := t' }) : wpAny (model prg w) A (call (.ref 81) [.str x t]) Q E s := by
  refine call_md (args := ⟨[.str x t], []⟩) (binds := [(Str.ofString "data", .str x t)]) M (by k_is) (by k_is) (by omega) (BindsTo.of_eq rfl) (locs rfl) ?_
  intro L h₁ F N
  obtain ⟨_, _, _, T⟩ := M.T
  have X := M.X
  k_steps
  all_goals (show Q _ _; refine k _ _ _ _ (Fr.keep (by assumption)) (by simp [*]))
end
end Mine
end
section
open PySem PySem.W PySem.Calls PySem.Spec PyProof.Rows
set_option maxRecDepth 100000
set_option linter.unusedVariables false
set_option maxHeartbeats 2000000
namespace Mine
theorem offC1 : True ∨ (if True then True else True) := by (w_top off; first | (right; walk1; fail) | (left; trivial))
theorem m_set {m : Str → Option Value} {x : Str} {v : Value} (h : m x = some v) : m = fun y => if y = x then some v else m y := by
  funext y
  by_cases q : y = x
  · rw [if_pos q, q, h]
  · rw [if_neg q]
section
variable {prog : Program} {w : World} {A : Around} {E : Value → Shared → Prop} {s : Shared} {env : Env} {h₀ : Heap} {x : Str} {body : List Stmt} {Q : Flow → Shared → Prop}
theorem range_inv {I : Addr} {a : Int} {n : Nat} (J : Nat → (Str → Option Value) → List (Addr × Obj) → Prop)
    (turn : ∀ i t h tk m news, i < n → J i m news → Fr h₀ env.locals h (fun y => if y = x then some (.int (a + (i : Int)) t) else m y) → News h₀ env.locals h ((I, itR (a + ((i + 1 : Nat) : Int)) ((n : Int) - ((i + 1 : Nat) : Int))) :: news) →
      wpAny (model prog w) A (execs body env) (UnrPost h₀ env.locals { s with heap := h, toks := tk } I (itR (a + ((i + 1 : Nat) : Int)) ((n : Int) - ((i + 1 : Nat) : Int))) (J (i + 1)) Q) E { s with heap := h, toks := tk })
    (done : ∀ m news h tk, J n m news → Fr h₀ env.locals h m → News h₀ env.locals h news → Q .next { s with heap := h, toks := tk }) :
    ∀ (k i : Nat) (m : Str → Option Value) (news : List (Addr × Obj)), i + k = n → J i m news → RangeRest prog w A E h₀ env x body Q s I a n k i m news
  | 0, i, m, news, hk, hJ => RangeRest.zero fun h tk F N => done m news h tk (by have : i = n := by omega
                                                                                 rw [← this]; exact hJ) F N
  | k + 1, i, m, news, hk, hJ => RangeRest.succ fun t h tk F N => by
    refine wpAny_mono (turn i t h tk m news (by omega) hJ F N) (fun f s₂ p => ?_) fun _ _ e => e
    have fin : UnrEnd h₀ env.locals { s with heap := h, toks := tk } I (itR (a + ((i + 1 : Nat) : Int)) ((n : Int) - ((i + 1 : Nat) : Int))) (J (i + 1)) s₂ →
        UnrEnd h₀ env.locals { s with heap := h, toks := tk } I (itR (a + ((i + 1 : Nat) : Int)) ((n : Int) - ((i + 1 : Nat) : Int))) (RangeRest prog w A E h₀ env x body Q s I a n k (i + 1)) s₂ := by
      rintro ⟨h', tk', m', news', e, F', N', ho, r⟩
      exact ⟨h', tk', m', news', e, F', N', ho, range_inv J turn done k (i + 1) m' news' (by omega) r⟩
    cases f with
    | ret v => exact p
    | brk => exact p
    | cont => exact fin p
    | next => exact fin p
end
-- the parts of a host
def vsp : Value → List Nat
  | .str n _ => n.cps.toList
  | .int d _ => List.replicate d.toNat 46
  | _ => []
def spell (vs : List Value) : List Nat := (vs.map vsp).flatten
theorem dots_list (n : Int) : (Txt.mul (Str.ofString ".") n).cps.toList = List.replicate n.toNat 46 := by
  rw [show Str.ofString "." = ⟨#[46]⟩ from by decide +kernel]
  exact mul_one_list 46 n
theorem dots_len (n : Int) : (Txt.mul (Str.ofString ".") n).length = n.toNat := by
  have := congrArg List.length (dots_list n)
  simpa [Str.length] using this
structure Alt (vs : List Value) : Prop where
  ev : ∀ i, i < vs.length → i % 2 = 0 → ∃ n t, vs[i]? = some (.str n t) ∧ 1 ≤ n.length ∧ n.length ≤ 3
  od : ∀ i, i < vs.length → i % 2 = 1 → ∃ d u, vs[i]? = some (.int d u) ∧ 1 ≤ d ∧ d ≤ 3
  len : vs.length ≤ 7
theorem spell_take {vs : List Value} {i : Nat} {v : Value} (h : vs[i]? = some v) : spell (vs.take (i + 1)) = spell (vs.take i) ++ vsp v := by
  unfold spell
  rw [List.take_add_one, h]
  simp
theorem len_any {prog : Program} {w : World} {A : Around} {E : Value → Shared → Prop} {s : Shared} {l : Addr} {vs : List Value} {Q : Value → Shared → Prop} (hl : s.heap.IsList l vs.toArray) (hs : vs.length ≤ 100)
    (h : ∀ t tk, Q (.int (vs.length : Int) t) { s with toks := tk }) : wpAny (model prog w) A (call (.builtin "len") [.ref l]) Q E s := by
  refine Calls.call_function_entry kind_len plain_len entry_len (args_len1 _) (wpAny_len_body_list hl (by simp; omega) ?_)
  simpa using h _ _
local macro_rules | `(tactic| walk_at "subscriptTail Name Name ref int") => `(tactic| (with_unfolding_all refine item_litK (by is_list) (by omega) (by omega) (by assumption) ?_))
local macro_rules | `(tactic| walk_at "call builtin:len") => `(tactic| (refine len_any (by is_list) (by assumption) ?_; intro t' tk'))
section
variable {w : World} {A : Around} {E : Value → Shared → Prop} {s : Shared} {Q : Value → Shared → Prop} {vs : List Value} {l : Addr}
theorem sp_spec (M : Md w s.heap) (hh : A.handled = none) (hd : A.depth + 6 < recursionLimit) (hl : s.heap.IsList l vs.toArray) (hv : Alt vs)
   (k : ∀ y u h' t', Keeps s.heap h' → y.cps.toList = spell vs → Q (.str y u) { s with heap := h', toks := t' }) : wpAny (model prg w) A (call (.ref 88) [.ref l]) Q E s := by
  refine call_md (args := ⟨[.ref l], []⟩) (binds := [(Str.ofString "parts", .ref l)]) M (by k_is) (by k_is) (by omega) (BindsTo.of_eq rfl) (locs rfl) ?_
  intro L h₁ F N
  obtain ⟨_, _, _, T⟩ := M.T
  have X := M.X
  have hlen := hv.len
  have hlen' : vs.length ≤ 100 := by omega
  k_steps
  refine iter_rangeUnr (n := vs.length) (by exact hh) (by assumption) ?sm ?sz (by assumption) (by assumption) (fun I hI => range_inv (fun i m news => news = [] ∧ m (Str.ofString "parts") = some (.ref l) ∧ ∃ y u, m (Str.ofString "text") = some (.str y u) ∧ y.cps.toList = spell (vs.take i) ∧ y.length ≤ 3 * i) ?turn ?done vs.length 0 _ _ (by omega) ⟨rfl, rfl, _, _, rfl, rfl, by decide⟩)
  case turn =>
    rintro i t h tk m news hi ⟨rfl, hp, y, u, ht, hy, hyl⟩ F₂ N₂
    rw [m_set ht, m_set hp] at F₂
    rcases Nat.mod_two_eq_zero_or_one i with h2 | h2
    · obtain ⟨n, tn, hx, hn1, hn3⟩ := hv.ev i hi h2
      have hx' : vs[((0 : Int) + (i : Int)).toNat]? = some (.str n tn) := by simpa using hx
      have hf : ((0 : Int) + (i : Int)).fmod 2 = 0 := by rw [Int.fmod_eq_emod_of_nonneg _ (by decide)]; omega
      have hyl' : y.length ≤ 21 := by omega
      k_steps
      all_goals first
        | (exfalso; omega)
        | (rw [spell_take hx, Str.cps_append, Array.toList_append, hy]; rfl)
        | (rw [Str.length_append]; omega)
    · obtain ⟨d, ud, hx, hd1, hd3⟩ := hv.od i hi h2
      have hx' : vs[((0 : Int) + (i : Int)).toNat]? = some (.int d ud) := by simpa using hx
      have hf : ((0 : Int) + (i : Int)).fmod 2 = 1 := by rw [Int.fmod_eq_emod_of_nonneg _ (by decide)]; omega
      have hyl' : y.length ≤ 21 := by omega
      k_steps
      all_goals first
        | (exfalso; omega)
        | (rw [spell_take hx, Str.cps_append, Array.toList_append, hy, dots_list]; rfl)
        | (rw [Str.length_append, dots_len]; omega)
  case done =>
    rintro m news h tk ⟨rfl, hp, y, u, ht, hy, hyl⟩ F₂ N₂
    rw [m_set ht] at F₂
    rw [List.take_length] at hy
    dsimp only
    k_steps
    all_goals (show Q _ _; exact k _ _ _ _ (Fr.keep (by assumption)) hy)
  case sm => exact small_one (by decide) (by decide) (by omega) (by omega)
  case sz => rw [rangeSize_one]; split <;> omega
end
end Mine
end
section
open PySem PySem.W PySem.Calls PySem.Spec PyProof.Rows
set_option maxRecDepth 100000
set_option linter.unusedVariables false
set_option maxHeartbeats 2000000
namespace Mine
theorem offC2 : True ∨ (if True then True else True) := by (w_top off; first | (right; walk1; fail) | (left; trivial))
def dtv : Value → PyData
  | .str n _ => .str n
  | .int d _ => .int d
  | _ => .none
structure SI (vs : List Value) : Prop where
  all : ∀ v ∈ vs, (∃ n t, v = .str n t ∧ PyData.strOk n = true) ∨ ∃ d u, v = .int d u
theorem SI.carried {vs : List Value} (h : SI vs) : CarriedAll vs (vs.map dtv) := by
  induction vs with
  | nil => exact .nil
  | cons v r ih =>
    refine .cons ?_ (ih ⟨fun x hx => h.all x (.tail _ hx)⟩)
    rcases h.all v (.head _) with ⟨n, t, rfl, hok⟩ | ⟨d, u, rfl⟩
    · exact .str n t
    · exact .int d u
theorem SI.shaped {vs : List Value} (h : SI vs) : SeqAt.shaped (.list (vs.map dtv)) = true := by
  have key : PyData.canLayAll0 (vs.map dtv) = true ∧ PyData.depthAll (vs.map dtv) = 0 := by
    induction vs with
    | nil => exact ⟨rfl, rfl⟩
    | cons v r ih =>
      have ih := ih ⟨fun x hx => h.all x (.tail _ hx)⟩
      rcases h.all v (.head _) with ⟨n, t, rfl, hok⟩ | ⟨d, u, rfl⟩
      · simp [dtv, PyData.canLayAll0, PyData.canLay0, PyData.depthAll, PyData.depth, ih, hok]
      · simp [dtv, PyData.canLayAll0, PyData.canLay0, PyData.depthAll, PyData.depth, ih]
  unfold SeqAt.shaped
  simp [PyData.canLay0, PyData.depth, key]
theorem eqv_map {xs ys : List Value} (hx : SI xs) (hy : SI ys) : PyData.eqvAll (xs.map dtv) (ys.map dtv) = true ↔ xs.map dtv = ys.map dtv := by
  induction xs generalizing ys with
  | nil => cases ys <;> simp [PyData.eqvAll]
  | cons v r ih =>
    cases ys with
    | nil => simp [PyData.eqvAll]
    | cons w q =>
      have ih := ih ⟨fun x h => hx.all x (.tail _ h)⟩ (ys := q) ⟨fun x h => hy.all x (.tail _ h)⟩
      rcases hx.all v (.head _) with ⟨n, t, rfl, _⟩ | ⟨d, u, rfl⟩ <;> rcases hy.all w (.head _) with ⟨n', t', rfl, _⟩ | ⟨d', u', rfl⟩ <;>
        simp [dtv, PyData.eqvAll, PyData.eqv, ih]
open Classical in
theorem eq_alt {prog : Program} {w : World} {A : Around} {E : Value → Shared → Prop} {s : Shared} {a b : Addr} {xs ys : Array Value} {Q : Value → Shared → Prop} (ha : s.heap.IsList a xs) (hb : s.heap.IsList b ys) (sx : SI xs.toList) (sy : SI ys.toList) (hu : A.units + 64 < cLine)
    (h : ∀ r, (r = true ↔ xs.toList.map dtv = ys.toList.map dtv) → Q (.bool r) s) : wpAny (model prog w) A (compareOp .Eq (.ref a) (.ref b)) Q E s := by
  refine eq_dataH (reads_newData (ys := xs.toList) (by simpa using ha) sx.carried) (reads_newData (ys := ys.toList) (by simpa using hb) sy.carried) sx.shaped sy.shaped hu (h _ ?_)
  rw [PyData.eqv]
  exact eqv_map sx sy
theorem eq_alt' {prog : Program} {w : World} {A : Around} {E : Value → Shared → Prop} {h : Heap} {g : Array GenState} {d : Drawn} {t : Nat} {os : OsState} {a b : Addr} {xs ys : Array Value} {Q : Value → Shared → Prop} (ha : h.IsList a xs) (hb : h.IsList b ys) (sx : SI xs.toList) (sy : SI ys.toList) (hu : A.units + 64 < cLine)
    (k : ∀ r, (r = true ↔ xs.toList.map dtv = ys.toList.map dtv) → Q (.bool r) ⟨h, g, d, t, os⟩) : wpAny (model prog w) A (compareOp .Eq (.ref a) (.ref b)) Q E ⟨h, g, d, t, os⟩ := eq_alt ha hb sx sy hu k
theorem SI.pick {items : Array Value} (h : SI items.toList) (lo hi : Option Int) : SI (slicePick items lo hi none).toList := by
  refine ⟨fun v hv => h.all v ?_⟩
  unfold slicePick at hv
  obtain ⟨i, _, hi⟩ := List.mem_filterMap.mp hv
  exact Array.mem_toList_iff.mpr (Array.mem_of_getElem? hi)
theorem listOf_is {h₀ h : Heap} {L a : Addr} {news : List (Addr × Obj)} {xs : Array Value} {n : Nat} (N : News h₀ L h news) (hm : (a, W.listOf xs n) ∈ news) : h.IsList a xs := ⟨_, N.get hm, rfl, n, rfl⟩
theorem item_neg1 {prog : Program} {w : World} {A : Around} {E : Value → Shared → Prop} {s : Shared} {value slice : PySem.Expr} {l : Addr} {vs : List Value} {u : Tok} {v : Value} {Q : Value → Shared → Prop}
    (hl : s.heap.IsList l vs.toArray) (hx : vs.getLast? = some v) (h : Q v s)
    (hs : subscripted slice false (.ref l) (.int (-1) u) = operate [.ref l, .int (-1) u] (getItem (.ref l) (.int (-1) u)) := by with_unfolding_all rfl) :
    wpAny (model prog w) A (subscriptTail value slice (.ref l) (.int (-1) u)) Q E s := by
  have h0 : 0 < vs.length := by
    cases vs with
    | nil => cases hx
    | cons => simp
  refine tail_any hl.typeIs slot_list_getitem.lookup (wpAny_getItem_list_neg hl (by decide) (by simp; omega) (by decide) ?_ h) hs
  rw [List.getLast?_eq_getElem?] at hx
  have e : ((-1 : Int) + ((vs.toArray.size : Nat) : Int)).toNat = vs.length - 1 := by simp; omega
  rw [e]
  simpa using hx
local macro_rules | `(tactic| walk_at "call builtin:len") => `(tactic| (refine len_any (by is_list) (by assumption) ?_; intro t' tk'))
def Stop (P : Prop) : Prop := P
theorem stop_here {P : Prop} (h : Stop P) : P := h
local macro_rules | `(tactic| walk_at "compareOp Eq ref ref") => `(tactic| (refine stop_here ?_))
local macro_rules | `(tactic| walk_at "subscriptTail Name Slice ref ref") => `(tactic| (refine' kmk_slice ?F ?N ?l ?p ?q ?_ ?s ?t ?z; (case F => k_asm); (case N => k_asm); (case l => kmk_list); (case p => kmk_part); (case q => kmk_part); (case s => with_unfolding_all rfl); (case t => kmk_pure); (case z => assumption); intro D' h' F' N' l1; (try k_lt l1); (try k_sweep)))
local macro_rules | `(tactic| walk_at "subscriptTail Name UnaryOp ref int") => `(tactic| (with_unfolding_all refine item_neg1 (by is_list) (by assumption) ?_))
local macro_rules | `(tactic| walk_at "subscriptTail Name Name ref int") => `(tactic| (with_unfolding_all refine item_litK (by is_list) (by omega) (by omega) (by assumption) ?_))
section
variable {w : World} {A : Around} {E : Value → Shared → Prop} {s : Shared} {Q : Value → Shared → Prop} {hs rs : List Value} {l r : Addr} {c : Int} {tc : Tok}
def userU (hs : List Value) (nl : Str) (da c : Int) (rs : List Value) : Prop :=
  if c = 0 then rs.map dtv = hs.map dtv else
    nl ≠ Str.ofString "7" ∧ 0 < (hs.length : Int) - rs.length - 1 ∧ (slicePick hs.toArray (some ((hs.length : Int) - rs.length - 1 + 1)) none none).toList.map dtv = rs.map dtv ∧ c ≤ da
theorem us_spec (M : Md w s.heap) (hd : A.depth + 6 < recursionLimit) (hu : A.units + 100 < cLine) (hl : s.heap.IsList l hs.toArray) (hr : s.heap.IsList r rs.toArray) (sih : SI hs.toArray.toList) (sir : SI rs.toArray.toList) (h7 : hs.length = 7) (hlen3 : rs.length ≤ 7)
   {nl : Str} {tl : Tok} (hlast : hs.getLast? = some (.str nl tl)) {da : Int} {ua : Tok} (hah : 0 < (hs.length : Int) - rs.length - 1 → hs[((hs.length : Int) - rs.length - 1).toNat]? = some (.int da ua))
   (k : ∀ b h' t', Keeps s.heap h' → (b = true ↔ userU hs nl da c rs) → Q (.bool b) { s with heap := h', toks := t' }) : wpAny (model prg w) A (call (.ref 95) [.ref l, .int c tc, .ref r]) Q E s := by
  refine call_md (args := ⟨[.ref l, .int c tc, .ref r], []⟩) (binds := [(Str.ofString "host", .ref l), (Str.ofString "dots", .int c tc), (Str.ofString "rest", .ref r)]) M (by k_is) (by k_is) (by omega) (BindsTo.of_eq rfl) (locs rfl) ?_
  intro L h₁ F N
  obtain ⟨_, _, _, T⟩ := M.T
  have X := M.X
  have hlen1 : hs.length ≤ 100 := by omega
  have hlen2 : rs.length ≤ 100 := by omega
  have hz1 : hs.toArray.size ≤ sizeLine := by simp; have : sizeLine = 16777216 := by decide
                                              omega
  k_steps
  · unfold Stop
    dsimp only
    refine' eq_alt' ?a ?b ?c ?d ?e ?_
    case a => exact Fr.lst (by with_reducible assumption) (by with_reducible assumption)
    case b => exact Fr.lst (by with_reducible assumption) (by with_reducible assumption)
    case c => with_reducible assumption
    case d => with_reducible assumption
    case e => simp only [units_deeper]; omega
    intro rr hrr
    show Q _ _
    refine k _ _ _ (Fr.keep (by with_reducible assumption)) ?_
    unfold userU
    rw [if_pos (by assumption), hrr]
  · unfold Stop
    dsimp only
    refine' eq_alt' ?a ?b ?c ?d ?e ?_
    case a => exact listOf_is (by with_reducible assumption) (by k_mem)
    case b => exact Fr.lst (by with_reducible assumption) (by with_reducible assumption)
    case c => with_reducible refine SI.pick ?_ _ _; with_reducible assumption
    case d => with_reducible assumption
    case e => simp only [units_deeper]; omega
    intro rr hrr
    have hx := hah (by assumption)
    k_steps
    all_goals (show Q _ _; refine k _ _ _ (Fr.keep (by with_reducible assumption)) ?_; unfold userU; rw [if_neg (by assumption)])
    all_goals (clear k hah; simp_all)
  all_goals (show Q _ _; refine k _ _ _ (Fr.keep (by with_reducible assumption)) ?_; unfold userU; rw [if_neg (by assumption)])
  all_goals (clear k hah; simp_all; try (intro hq; omega))
end
end Mine
end
section
open PySem PySem.W PySem.Calls PySem.Spec PyProof.Rows
set_option maxRecDepth 100000
set_option linter.unusedVariables false
set_option maxHeartbeats 400000
namespace Mine
theorem offC3 : True ∨ (if True then True else True) := by (w_top off; first | (right; walk1; fail) | (left; trivial))
section
variable {prog : Program} {w : World} {A : Around} {E : Value → Shared → Prop} {s : Shared} {env : Env} {h₀ : Heap} {x : Str} {body : List Stmt} {Q : Flow → Shared → Prop}
theorem krs_inv {I : Addr} {a c : Int} {n : Nat} (J : Nat → (Str → Option Value) → List (Addr × Obj) → Prop)
    (turn : ∀ i t h tk m news, i < n → J i m news → (∀ p ∈ news, p.1 ≠ I) → Fr h₀ env.locals h (fun y => if y = x then some (.int (a + (i : Int) * c) t) else m y) → News h₀ env.locals h ((I, krsIt (a + ((i + 1 : Nat) : Int) * c) ((n : Int) - ((i + 1 : Nat) : Int)) c) :: news) →
      wpAny (model prog w) A (execs body env) (UnrPost h₀ env.locals { s with heap := h, toks := tk } I (krsIt (a + ((i + 1 : Nat) : Int) * c) ((n : Int) - ((i + 1 : Nat) : Int)) c) (J (i + 1)) Q) E { s with heap := h, toks := tk })
    (done : ∀ m news h tk, J n m news → Fr h₀ env.locals h m → News h₀ env.locals h news → Q .next { s with heap := h, toks := tk }) :
    ∀ (k i : Nat) (m : Str → Option Value) (news : List (Addr × Obj)), i + k = n → J i m news → (∀ p ∈ news, p.1 ≠ I) → KrsRest prog w A E h₀ env x body Q s I a c n k i m news
  | 0, i, m, news, hk, hJ, ho => KrsRest.zero fun h tk F N => done m news h tk (by have : i = n := by omega
                                                                                   rw [← this]; exact hJ) F N
  | k + 1, i, m, news, hk, hJ, ho => KrsRest.succ rfl fun t h tk F N => by
    refine wpAny_mono (turn i t h tk m news (by omega) hJ ho F N) (fun f s₂ p => ?_) fun _ _ e => e
    have fin : UnrEnd h₀ env.locals { s with heap := h, toks := tk } I (krsIt (a + ((i + 1 : Nat) : Int) * c) ((n : Int) - ((i + 1 : Nat) : Int)) c) (J (i + 1)) s₂ →
        UnrEnd h₀ env.locals { s with heap := h, toks := tk } I (krsIt (a + ((i + 1 : Nat) : Int) * c) ((n : Int) - ((i + 1 : Nat) : Int)) c) (KrsRest prog w A E h₀ env x body Q s I a c n k (i + 1)) s₂ := by
      rintro ⟨h', tk', m', news', e, F', N', ho', r⟩
      exact ⟨h', tk', m', news', e, F', N', ho', krs_inv J turn done k (i + 1) m' news' (by omega) r ho'⟩
    cases f with
    | ret v => exact p
    | brk => exact p
    | cont => exact fin p
    | next => exact fin p
theorem iter_rangeJ {r : Addr} {a₀ b₀ c : Int} {t₀ u₀ v₀ : Tok} {n : Nat} {m₀ : Str → Option Value} {news : List (Addr × Obj)} (J : Nat → (Str → Option Value) → List (Addr × Obj) → Prop)
    (hh : A.handled = none) (hr : IsRange s.heap r a₀ b₀ c t₀ u₀ v₀) (hsmall : Builtin.Range.small a₀ b₀ c = true) (hn : Builtin.Range.rangeSize a₀ b₀ c = (n : Int)) (F : Fr h₀ env.locals s.heap m₀) (N : News h₀ env.locals s.heap news)
    (hJ0 : J 0 m₀ news)
    (turn : ∀ I i t h tk m₁ news₁, i < n → J i m₁ news₁ → (∀ p ∈ news₁, p.1 ≠ I) → Fr h₀ env.locals h (fun y => if y = x then some (.int (a₀ + (i : Int) * c) t) else m₁ y) → News h₀ env.locals h ((I, krsIt (a₀ + ((i + 1 : Nat) : Int) * c) ((n : Int) - ((i + 1 : Nat) : Int)) c) :: news₁) →
      wpAny (model prog w) A (execs body env) (UnrPost h₀ env.locals { s with heap := h, toks := tk } I (krsIt (a₀ + ((i + 1 : Nat) : Int) * c) ((n : Int) - ((i + 1 : Nat) : Int)) c) (J (i + 1)) Q) E { s with heap := h, toks := tk })
    (done : ∀ m₁ news₁ h tk, J n m₁ news₁ → Fr h₀ env.locals h m₁ → News h₀ env.locals h news₁ → Q .next { s with heap := h, toks := tk }) :
    wpAny (model prog w) A (pyIter (.ref r)) (fun it s₂ => LoopAtV prog w A h₀ env x body Q E it s₂) E s :=
  krs_iter hh hr hsmall hn F N fun I hI => krs_inv J (turn I) done n 0 m₀ news (by omega) hJ0 fun p hp => Nat.ne_of_lt (hI p hp)
end
local macro_rules | `(tactic| walk_at "call builtin:len") => `(tactic| (refine len_any (by is_list) (by assumption) ?_; intro t' tk'))
local macro_rules | `(tactic| walk_at "compareOp Eq ref ref") => `(tactic| (refine stop_here ?_))
local macro_rules | `(tactic| walk_at "UnrEnd") => `(tactic| k_dflt (refine' UnrEnd.intro ?f ?n [] ?s ?o ?_; (case f => k_asm); (case n => k_asm); (case s => exact List.forall_mem_cons.mpr ⟨by k_mem, List.forall_mem_nil _⟩); (case o => exact List.forall_mem_nil _)))
local macro_rules | `(tactic| walk_at "call type:range") => `(tactic| (refine stop_here ?_))
local macro_rules | `(tactic| walk_at "subscriptTail Name Slice ref ref") => `(tactic| (refine' kmk_slice ?F ?N ?l ?p ?q ?_ ?s ?t ?z; (case F => k_asm); (case N => k_asm); (case l => kmk_list); (case p => kmk_part); (case q => kmk_part); (case s => with_unfolding_all rfl); (case t => kmk_pure); (case z => assumption); intro D' h' F' N' l1; (try k_lt l1); (try k_sweep)))
local macro_rules | `(tactic| walk_at "subscriptTail Name BinOp ref int") => `(tactic| (with_unfolding_all refine item_litK (by is_list) (by omega) (by omega) (by assumption) ?_))
local macro_rules | `(tactic| walk_at "subscriptTail Name UnaryOp ref int") => `(tactic| (with_unfolding_all refine item_neg1 (by is_list) (by assumption) ?_))
def nameAt (hs : List Value) (j : Nat) : Str := match hs[j]? with
  | some (.str n _) => n
  | _ => Str.empty
def domP (hs : List Value) (rl : Str) (rs : List Value) (i : Nat) : Prop :=
  (slicePick hs.toArray (some (2 + (i : Int) * 2)) (some (2 + (i : Int) * 2 + rs.length - 1)) none).toList.map dtv = (slicePick rs.toArray none (some (-1)) none).toList.map dtv ∧ Txt.startswith (nameAt hs (2 + 2 * i + rs.length - 1)) rl = true
def domU (hs : List Value) (nl rl : Str) (c : Int) (rs : List Value) : Prop :=
  if c = 0 then rs.map dtv = hs.map dtv else c ≤ 1 ∧ nl ≠ Str.ofString "7" ∧ ¬ (rl = Str.ofString "7" ∧ 1 < (rs.length : Int)) ∧ ∃ i : Nat, 2 + 2 * i + rs.length ≤ 7 ∧ domP hs rl rs i
section
variable {w : World} {A : Around} {E : Value → Shared → Prop} {s : Shared} {Q : Value → Shared → Prop} {hs rs : List Value} {l r : Addr} {c : Int} {tc : Tok}
theorem do_spec (M : Md w s.heap) (hh : A.handled = none) (hd : A.depth + 6 < recursionLimit) (hu : A.units + 100 < cLine) (hl : s.heap.IsList l hs.toArray) (hr : s.heap.IsList r rs.toArray) (sih : SI hs.toArray.toList) (sir : SI rs.toArray.toList) (h7 : hs.length = 7) (hlen3 : rs.length ≤ 7) (hodd : rs.length % 2 = 1)
   {nl rl : Str} {tl tr : Tok} (hlast : hs.getLast? = some (.str nl tl)) (hrl : rs.getLast? = some (.str rl tr)) (hev : ∀ j, j < 7 → j % 2 = 0 → ∃ n t, hs[j]? = some (.str n t))
   (k : ∀ b h' t', Keeps s.heap h' → (b = true ↔ domU hs nl rl c rs) → Q (.bool b) { s with heap := h', toks := t' }) : wpAny (model prg w) A (call (.ref 102) [.ref l, .int c tc, .ref r]) Q E s := by
  refine call_md (args := ⟨[.ref l, .int c tc, .ref r], []⟩) (binds := [(Str.ofString "host", .ref l), (Str.ofString "dots", .int c tc), (Str.ofString "rest", .ref r)]) M (by k_is) (by k_is) (by omega) (BindsTo.of_eq rfl) (locs rfl) ?_
  intro L h₁ F N
  obtain ⟨_, _, _, T⟩ := M.T
  have X := M.X
  have hlen1 : hs.length ≤ 100 := by omega
  have hlen2 : rs.length ≤ 100 := by omega
  have hz1 : hs.toArray.size ≤ sizeLine := by simp; have : sizeLine = 16777216 := by decide
                                              omega
  have hz2 : rs.toArray.size ≤ sizeLine := by simp; have : sizeLine = 16777216 := by decide
                                              omega
  k_steps
  · unfold Stop
    dsimp only
    refine' eq_alt' ?a ?b ?c ?d ?e ?_
    case a => exact Fr.lst (by with_reducible assumption) (by with_reducible assumption)
    case b => exact Fr.lst (by with_reducible assumption) (by with_reducible assumption)
    case c => with_reducible assumption
    case d => with_reducible assumption
    case e => simp only [units_deeper]; omega
    intro rr hrr
    show Q _ _
    refine k _ _ _ (Fr.keep (by with_reducible assumption)) ?_
    unfold domU
    rw [if_pos (by assumption), hrr]
  · show Q _ _
    refine k _ _ _ (Fr.keep (by with_reducible assumption)) ?_
    unfold domU
    rw [if_neg (by assumption)]
    clear k; simp_all; try omega
  · show Q _ _
    refine k _ _ _ (Fr.keep (by with_reducible assumption)) ?_
    unfold domU
    rw [if_neg (by assumption)]
    clear k; simp_all; try omega
  · show Q _ _
    refine k _ _ _ (Fr.keep (by with_reducible assumption)) ?_
    unfold domU
    rw [if_neg (by assumption)]
    clear k; simp_all; try omega
  all_goals (
    unfold Stop
    (try dsimp only)
    refine call_range_3 (by decide) ?_ (.inl (PyProof.noPylong_small (by omega)))
    (rename Fr _ _ _ _ => FF)
    refine iter_rangeJ (n := (7 - rs.length) / 2) (fun i m news => news = [] ∧ m (Str.ofString "host") = some (.ref l) ∧ m (Str.ofString "rest") = some (.ref r) ∧ ∀ j, j < i → ¬ domP hs rl rs j) (by exact hh) (IsRange.new ..) ?sm ?sz (FF.push _) (News.nil) ⟨rfl, rfl, rfl, fun j hj => absurd hj (by omega)⟩ ?turn ?done
    case sm => have hh3 : rs.length = 1 ∨ rs.length = 3 ∨ rs.length = 5 ∨ rs.length = 7 := by omega
               rw [h7]
               rcases hh3 with q | q | q | q <;> rw [q] <;> decide
    case sz => have hh3 : rs.length = 1 ∨ rs.length = 3 ∨ rs.length = 5 ∨ rs.length = 7 := by omega
               rw [h7]
               rcases hh3 with q | q | q | q <;> rw [q] <;> decide
    case turn =>
      rintro I i t h tk m news hi ⟨rfl, hm1, hm2, hj⟩ _ F₂ N₂
      rw [m_set hm1, m_set hm2] at F₂
      have hi2 : 2 + 2 * i + rs.length ≤ 7 := by omega
      obtain ⟨nk, tn, hx⟩ := hev (2 + 2 * i + rs.length - 1) (by omega) (by omega)
      have hx' : hs[(2 + (i : Int) * 2 + (rs.length : Int) - 1).toNat]? = some (.str nk tn) := by
        rw [show (2 + (i : Int) * 2 + (rs.length : Int) - 1).toNat = 2 + 2 * i + rs.length - 1 by omega]; exact hx
      have hnk : nameAt hs (2 + 2 * i + rs.length - 1) = nk := by unfold nameAt; rw [hx]
      k_steps
      unfold Stop
      (try dsimp only)
      refine' eq_alt' ?a ?b ?c ?d ?e ?_
      case a => exact listOf_is (by with_reducible assumption) (by k_mem)
      case b => exact listOf_is (by with_reducible assumption) (by k_mem)
      case c => with_reducible refine SI.pick ?_ _ _; with_reducible assumption
      case d => with_reducible refine SI.pick ?_ _ _; with_reducible assumption
      case e => simp only [units_deeper]; omega
      intro rr hrr
      k_steps
      all_goals first
        | (show Q _ _
           refine k _ _ _ (Fr.keep (by with_reducible assumption)) ?_
           unfold domU
           rw [if_neg (by assumption)]
           have hP : domP hs rl rs i := ⟨hrr.mp (by assumption), by rw [hnk]; assumption⟩
           clear k
           refine ⟨fun _ => ⟨by omega, by simp_all, by simp_all, i, hi2, hP⟩, fun _ => rfl⟩)
        | (intro hP
           rename_i jj _
           by_cases hji : jj = i
           · subst hji
             unfold domP at hP
             rw [hnk] at hP
             simp_all
           · exact hj jj (by omega) hP)
    case done =>
      rintro m news h tk ⟨rfl, hm1, hm2, hj⟩ F₂ N₂
      dsimp only
      k_steps
      all_goals (show Q _ _; refine k _ _ _ (Fr.keep (by assumption)) ?_; unfold domU; rw [if_neg (by assumption)])
      refine ⟨fun q => (nomatch q), fun ⟨_, _, _, i, hi, hP⟩ => absurd hP (hj i (by omega))⟩)
end
end Mine
end
section
open PySem PySem.W PySem.Calls PySem.Spec PyProof.Rows
set_option maxRecDepth 100000
set_option linter.unusedVariables false
namespace Mine
theorem offD0 : True ∨ (if True then True else True) := by (w_top off; first | (right; walk1; fail) | (left; trivial))
noncomputable def lawDef : Option (List Stmt × Scope) := match prg.main.body.getLast? with
  | some (.FunctionDef _ _ b _ _ _ sc _ _ _) => some (b, sc)
  | _ => none
noncomputable def lawBody : List Stmt := match lawDef with | some p => p.1 | none => []
noncomputable def lawScope : Scope := match lawDef with | some p => p.2 | none => { kind := .function, names := [], isGenerator := false, isCoroutine := false, more := [] }
end Mine
namespace Mine
open PySem
noncomputable def forBody (i : Nat) : List Stmt := match lawBody[i]? with
  | some (.For _ _ b _ _) => b
  | _ => []
end Mine
end
section
open PySem PySem.W PySem.Calls PySem.Spec PyProof.Rows
set_option maxRecDepth 100000
set_option linter.unusedVariables false
set_option maxHeartbeats 1000000
namespace Mine
theorem offD1 : True ∨ (if True then True else True) := by (w_top off; first | (right; walk1; fail) | (left; trivial))
local macro_rules | `(tactic| walk_at "binaryOp Add ref ref") => `(tactic| (refine stop_here ?_))
local macro_rules | `(tactic| walk_at "subscriptTail Name Slice ref ref") => `(tactic| ((rename IntsAre _ (List.map _ _) => hIq); refine stop_here ?_))
local macro_rules | `(tactic| walk_at "execs cons") => `(tactic| (refine stop_here ?_))
theorem ints_all {vs : List Value} {ns : List Int} (h : IntsAre vs ns) : ∀ v ∈ vs, ∃ n t, v = .int n t ∧ n ∈ ns := by
  induction h with
  | nil => intro v hv; cases hv
  | cons i t r ih =>
    intro v hv
    rcases List.mem_cons.mp hv with rfl | hv
    · exact ⟨i, t, rfl, .head _⟩
    · obtain ⟨n, t', e, hn⟩ := ih v hv
      exact ⟨n, t', e, .tail _ hn⟩
def OkInt (v : Value) : Prop := ∃ n t, v = .int n t ∧ 0 ≤ n ∧ n < 1000000
theorem eight {vs : List Value} (hl : vs.length = 8) (h : ∀ v ∈ vs, OkInt v) : ∃ (n0 n1 n2 n3 n4 n5 n6 n7 : Int) (t0 t1 t2 t3 t4 t5 t6 t7 : Tok),
    vs = [.int n0 t0, .int n1 t1, .int n2 t2, .int n3 t3, .int n4 t4, .int n5 t5, .int n6 t6, .int n7 t7] ∧ (0 ≤ n0 ∧ n0 < 1000000) ∧ (0 ≤ n1 ∧ n1 < 1000000) ∧ (0 ≤ n2 ∧ n2 < 1000000) ∧ (0 ≤ n3 ∧ n3 < 1000000) ∧ (0 ≤ n4 ∧ n4 < 1000000) ∧ (0 ≤ n5 ∧ n5 < 1000000) ∧ (0 ≤ n6 ∧ n6 < 1000000) ∧ (0 ≤ n7 ∧ n7 < 1000000) := by
  match vs, hl with
  | [a, b, c, d, e, f, g, i], _ =>
    obtain ⟨n0, t0, rfl, h0⟩ := h a (by simp)
    obtain ⟨n1, t1, rfl, h1⟩ := h b (by simp)
    obtain ⟨n2, t2, rfl, h2⟩ := h c (by simp)
    obtain ⟨n3, t3, rfl, h3⟩ := h d (by simp)
    obtain ⟨n4, t4, rfl, h4⟩ := h e (by simp)
    obtain ⟨n5, t5, rfl, h5⟩ := h f (by simp)
    obtain ⟨n6, t6, rfl, h6⟩ := h g (by simp)
    obtain ⟨n7, t7, rfl, h7⟩ := h i (by simp)
    exact ⟨n0, n1, n2, n3, n4, n5, n6, n7, t0, t1, t2, t3, t4, t5, t6, t7, rfl, h0, h1, h2, h3, h4, h5, h6, h7⟩
theorem nums_of {ys own : List Value} {g : Int} (hg : g = (ys.length : Int)) (hg8 : ys.length ≤ 8) (hown : own.length = 8) (hy : ∀ v ∈ ys, OkInt v) (ho : ∀ v ∈ own, OkInt v) :
    (ys.toArray.toList ++ (slicePick own.toArray (some g) none none).toList).length = 8 ∧ ∀ v ∈ ys.toArray.toList ++ (slicePick own.toArray (some g) none none).toList, OkInt v := by
  subst hg
  rw [slicePick_from']
  constructor
  · simp; omega
  · intro v hv
    rcases List.mem_append.mp hv with q | q
    · exact hy v q
    · exact ho v (List.mem_of_mem_drop (by simpa using q))
theorem okInt_of {ys : List Value} {ns : List Int} (h : IntsAre ys (List.map (fun k' => k'.fmod 1000000) ns)) : ∀ v ∈ ys, OkInt v := by
  intro v hv
  obtain ⟨n, t, rfl, hn⟩ := ints_all h v hv
  obtain ⟨k, _, rfl⟩ := List.mem_map.mp hn
  refine ⟨_, _, rfl, ?_⟩
  rw [Int.fmod_eq_emod_of_nonneg _ (by decide)]
  omega
theorem add_size {ys : List Value} {own : Array Value} {lo hi st : Option Int} (h : ys.length ≤ 8) (ho : own.size = 8) : ys.toArray.toList.length + (slicePick own lo hi st).toList.length ≤ sizeLine := by
  have h1 := slicePick_size_le own lo hi st
  have h2 : sizeLine = 16777216 := by decide
  simp only [Array.length_toList]
  simp
  omega
theorem fin_nums {h₀ h' : Heap} {L D : Addr} {co : Obj} {rest : List (Addr × Obj)} {ys own : List Value} {g : Int} (NN : News h₀ L h' ((D, W.listOf (ys.toArray.toList ++ (slicePick own.toArray (some g) none none).toList).toArray 0) :: rest)) (hm : (L + 1, co) ∈ rest)
    (hg : g = (ys.length : Int)) (hg8 : ys.length ≤ 8) (hown : own.length = 8) (hy : ∀ v ∈ ys, OkInt v) (ho : ∀ v ∈ own, OkInt v) :
    ∃ (n0 n1 n2 n3 n4 n5 n6 n7 : Int) (t0 t1 t2 t3 t4 t5 t6 t7 : Tok), News h₀ L h' [(D, W.listOf [.int n0 t0, .int n1 t1, .int n2 t2, .int n3 t3, .int n4 t4, .int n5 t5, .int n6 t6, .int n7 t7].toArray 0), (L + 1, co)] ∧
      ((0 ≤ n0 ∧ n0 < 1000000) ∧ (0 ≤ n1 ∧ n1 < 1000000) ∧ (0 ≤ n2 ∧ n2 < 1000000) ∧ (0 ≤ n3 ∧ n3 < 1000000) ∧ (0 ≤ n4 ∧ n4 < 1000000) ∧ (0 ≤ n5 ∧ n5 < 1000000) ∧ (0 ≤ n6 ∧ n6 < 1000000) ∧ (0 ≤ n7 ∧ n7 < 1000000)) := by
  obtain ⟨h8, hok⟩ := nums_of hg hg8 hown hy ho
  obtain ⟨n0, n1, n2, n3, n4, n5, n6, n7, t0, t1, t2, t3, t4, t5, t6, t7, e, hb⟩ := eight h8 hok
  rw [e] at NN
  refine ⟨n0, n1, n2, n3, n4, n5, n6, n7, t0, t1, t2, t3, t4, t5, t6, t7, fun p hp => ?_, hb⟩
  rcases List.mem_cons.mp hp with rfl | hp
  · exact NN _ (.head _)
  · rw [List.mem_singleton.mp hp]
    exact NN _ (.tail _ hm)
section
variable {w : World} {E : Value → Shared → Prop} {s : Shared} {Q : Flow → Shared → Prop} {h₀ : Heap} {L fa sc : Addr} {cd : Value} {m mg mb : Str → Option Value} {mean : ExcName → Option Value} {co : Obj} {vs : List Value} {ns : List Int}
theorem law_a (X : (Mine.hd.heap_39 w.params).In h₀) (T : Top Mine.hd.view_39 lse mean mg mb h₀)
    (F : Fr h₀ L s.heap m) (hm : m (Str.ofString "script") = some (.ref sc)) (N : News h₀ L s.heap [(L + 1, co)]) (hL : h₀.IsList sc vs.toArray) (hI : IntsAre vs ns) (hlen : ns.length ≤ 63)
    (K : ∀ (h' : Heap) (t' : Nat) (m' : Str → Option Value) (dn : Addr) (n0 n1 n2 n3 n4 n5 n6 n7 : Int) (t0 t1 t2 t3 t4 t5 t6 t7 : Tok), Fr h₀ L h' m' → m' (Str.ofString "numbers") = some (.ref dn) →
      News h₀ L h' [(dn, W.listOf [.int n0 t0, .int n1 t1, .int n2 t2, .int n3 t3, .int n4 t4, .int n5 t5, .int n6 t6, .int n7 t7].toArray 0), (L + 1, co)] → L + 1 < dn →
      ((0 ≤ n0 ∧ n0 < 1000000) ∧ (0 ≤ n1 ∧ n1 < 1000000) ∧ (0 ≤ n2 ∧ n2 < 1000000) ∧ (0 ≤ n3 ∧ n3 < 1000000) ∧ (0 ≤ n4 ∧ n4 < 1000000) ∧ (0 ≤ n5 ∧ n5 < 1000000) ∧ (0 ≤ n6 ∧ n6 < 1000000) ∧ (0 ≤ n7 ∧ n7 < 1000000)) →
      wpAny (model prg w) (callerA.deeper (envOfC (Str.ofString "law") lawScope L fa cd)) (execs (lawBody.drop 3) (envOfC (Str.ofString "law") lawScope L fa cd)) Q E { s with heap := h', toks := t' }) :
    wpAny (model prg w) (callerA.deeper (envOfC (Str.ofString "law") lawScope L fa cd)) (execs lawBody (envOfC (Str.ofString "law") lawScope L fa cd)) Q E s := by
  rw [m_set hm] at F
  have hS := (rfl : lawScope = lawScope)
  conv at hS => rhs; whnf
  have hB := (rfl : lawBody = lawBody)
  conv at hB => rhs; whnf
  rw [hS, hB]
  clear hS hB
  refine wpAny_execs_cons ?_
  k_steps
  unfold Stop
  refine wpAny_execs_cons ?_
  k_steps
  unfold Stop
  refine wpAny_execs_cons ?_
  (rename IntsAre _ (List.map _ _) => hIg)
  (rename (List.length _ = List.length (List.map _ _)) => hLg)
  k_steps
  unfold Stop
  refine' kmk_slice ?sF ?sN ?sl ?sp ?sq ?_ ?ss ?st ?sz
  case sF => k_asm
  case sN => k_asm
  case sl => exact listOf_is (by with_reducible assumption) (by k_mem)
  case sp => kmk_part
  case sq => kmk_part
  case ss => with_unfolding_all rfl
  case st => kmk_pure
  case sz => show 8 ≤ sizeLine; decide
  intro D₁ h₁ F₁ N₁ l₁
  refine' kmk_add_lit F₁ N₁ ?sa ?sb rfl ?_ ?sz
  case sa => exact listOf_is N₁ (.tail _ (.head _))
  case sb => exact listOf_is N₁ (.head _)
  case sz => exact add_size (by rw [hLg]; simp; omega) rfl
  intro D₂ h₂ F₂ N₂ l₂
  have hd2 : L + 1 < D₂ := l₂ (L + 1, co) (by simp)
  k_steps
  unfold Stop
  dsimp only
  (rename News _ _ _ _ => NN)
  (rename Fr _ _ _ _ => FF)
  (rename IntsAre _ (List.map _ _) => hIg)
  have key := fin_nums (co := co) NN (by simp) (by first | rfl | (rw [hLg]; done) | (rw [hLg]; simp)) (by rw [hLg]; simp; omega) rfl (okInt_of hIg) (by
    intro v hv
    simp only [List.mem_cons, List.not_mem_nil, or_false] at hv
    rcases hv with rfl | rfl | rfl | rfl | rfl | rfl | rfl | rfl <;> exact ⟨_, _, rfl, by decide, by decide⟩)
  obtain ⟨n0, n1, n2, n3, n4, n5, n6, n7, t0, t1, t2, t3, t4, t5, t6, t7, N', hb⟩ := key
  exact K _ _ _ D₂ n0 n1 n2 n3 n4 n5 n6 n7 t0 t1 t2 t3 t4 t5 t6 t7 FF rfl N' hd2 hb
end
end Mine
end
section
open PySem PySem.W PySem.Calls PySem.Spec PyProof.Rows
set_option maxRecDepth 100000
set_option linter.unusedVariables false
set_option maxHeartbeats 1000000
namespace Mine
theorem offD2 : True ∨ (if True then True else True) := by (w_top off; first | (right; walk1; fail) | (left; trivial))
local macro_rules | `(tactic| walk_at "binaryOp Add ref ref") => `(tactic| (refine stop_here ?_))
local macro_rules | `(tactic| walk_at "subscriptTail") => `(tactic| (refine stop_here ?_))
def IsName (x : Str) : Prop := x = Str.ofString "a" ∨ x = Str.ofString "b" ∨ x = Str.ofString "co" ∨ x = Str.ofString "com" ∨ x = Str.ofString "7"
theorem menu_any {prog : Program} {w : World} {A : Around} {E : Value → Shared → Prop} {h : Heap} {g : Array GenState} {d : Drawn} {tk : Nat} {os : OsState} {value slice : PySem.Expr} {D : Addr} {items : List Value} {k : Int} {u : Tok} {P : Value → Prop} {Q : Value → Shared → Prop}
    (ht : IsTup h D items.toArray) (h0 : 0 ≤ k) (h1 : k < items.length) (hl : items.length ≤ 100) (hP : ∀ v ∈ items, P v) (hQ : ∀ v, P v → Q v ⟨h, g, d, tk, os⟩)
    (hs : subscripted slice false (.ref D) (.int k u) = operate [.ref D, .int k u] (getItem (.ref D) (.int k u)) := by with_unfolding_all rfl) :
    wpAny (model prog w) A (subscriptTail value slice (.ref D) (.int k u)) Q E ⟨h, g, d, tk, os⟩ := by
  have hlt : k.toNat < items.length := by omega
  refine item_tupleT (j := k.toNat) ht (by omega) (by omega) ?_ (by simp [hlt]) (hQ _ (hP _ (List.getElem_mem hlt))) hs
  unfold seqIndex?
  simp
  omega
theorem mem_sh {D : Addr} {hv : List Value} {a b : Value} {all : List (Addr × Obj)} (h : (D, W.listOf (hv.toArray.toList ++ #[a, b].toList).toArray 0) ∈ all) : (D, W.listOf (hv ++ [a, b]).toArray 0) ∈ all := by simpa using h
local macro_rules | `(tactic| walk_at "UnrEnd") => `(tactic| (refine stop_here ?_))
section
variable {w : World} {s : Shared} {Q : Flow → Shared → Prop} {h₀ h : Heap} {L fa sc dn I ax hA : Addr} {cd : Value} {m mg mb : Str → Option Value} {mean : ExcName → Option Value} {co it lo od : Obj}
  {n : Int} {t : Tok} {tk : Nat} {hv : List Value} {R : (Str → Option Value) → List (Addr × Obj) → Prop}
theorem turn1 (X : (Mine.hd.heap_39 w.params).In h₀) (T : Top Mine.hd.view_39 lse mean mg mb h₀)
    (F : Fr h₀ L h (fun y => if y = Str.ofString "x" then some (.int n t) else m y)) (hm1 : m (Str.ofString "host") = some (.ref hA)) (hm2 : m (Str.ofString "numbers") = some (.ref dn))
    (N : News h₀ L h [(I, it), (ax, lo), (hA, W.listOf hv.toArray 0), (dn, od), (L + 1, co)])
    (hn : 0 ≤ n ∧ n < 1000000) (hvl : hv.length ≤ 8) (ho : I ≠ ax ∧ I ≠ dn ∧ I ≠ L + 1)
    (K : ∀ (m' : Str → Option Value) (hA' : Addr) (nm : Str) (tn : Tok) (d : Int) (td : Tok), m' (Str.ofString "host") = some (.ref hA') → m' (Str.ofString "numbers") = some (.ref dn) → IsName nm → 1 ≤ d ∧ d ≤ 3 →
      R m' [(ax, lo), (hA', W.listOf (hv ++ [Value.str nm tn, Value.int d td]).toArray 0), (dn, od), (L + 1, co)]) :
    wpAny (model prg w) (callerA.deeper (envOfC (Str.ofString "law") lawScope L fa cd)) (execs (forBody 4) (envOfC (Str.ofString "law") lawScope L fa cd)) (UnrPost h₀ L { s with heap := h, toks := tk } I it R Q) (fun _ _ => False) { s with heap := h, toks := tk } := by
  rw [m_set hm1, m_set hm2] at F
  have hS := (rfl : lawScope = lawScope)
  conv at hS => rhs; whnf
  have hB := (rfl : forBody 4 = forBody 4)
  conv at hB => rhs; whnf
  rw [hS, hB]
  clear hS hB
  k_steps
  unfold Stop
  dsimp only
  (rename News _ _ _ _ => NN)
  have hf5 : n.fmod 5 = n % 5 := Int.fmod_eq_emod_of_nonneg _ (by decide)
  refine menu_any (P := fun v => ∃ nm tn, v = .str nm tn ∧ IsName nm) (News.isTup NN (.head _)) (by rw [hf5]; omega) (by rw [hf5]; simp; omega) (by simp) ?_ ?_
  · intro v hv
    simp only [List.mem_cons, List.not_mem_nil, or_false] at hv
    rcases hv with rfl | rfl | rfl | rfl | rfl
    · exact ⟨_, _, rfl, .inl rfl⟩
    · exact ⟨_, _, rfl, .inr (.inl rfl)⟩
    · exact ⟨_, _, rfl, .inr (.inr (.inl rfl))⟩
    · exact ⟨_, _, rfl, .inr (.inr (.inr (.inl rfl)))⟩
    · exact ⟨_, _, rfl, .inr (.inr (.inr (.inr rfl)))⟩
  · rintro v ⟨nm, tn, rfl, hnm⟩
    k_steps
    unfold Stop
    dsimp only
    (rename News _ _ _ _ => N₁)
    (rename Fr _ _ _ _ => F₁)
    refine' kmk_add_lit F₁ N₁ ?sa ?sb rfl ?_ ?sz
    case sa => exact listOf_is N₁ (by k_mem)
    case sb => exact listOf_is N₁ (by k_mem)
    case sz =>
      have : sizeLine = 16777216 := by decide
      simp; omega
    intro D₂ h₂ F₂ N₂ l₂
    have hI2 : I < D₂ := l₂ (I, it) (by simp)
    k_steps
    unfold Stop
    (try dsimp only)
    (rename News _ _ _ _ => N₃)
    (rename Fr _ _ _ _ => F₃)
    have hq3 : (n.fdiv 5).fmod 3 = (n / 5) % 3 := by rw [Int.fmod_eq_emod_of_nonneg _ (by decide), Int.fdiv_eq_ediv_of_nonneg _ (by decide)]
    refine' UnrEnd.intro F₃ N₃ [(ax, lo), (D₂, W.listOf (hv ++ [Value.str nm tn, Value.int ?sd ?st]).toArray 0), (dn, od), (L + 1, co)] ?ss ?so (K _ D₂ nm tn ?sd ?st rfl rfl hnm ?sk)
    case ss =>
      intro p hp
      simp only [List.mem_cons, List.not_mem_nil, or_false] at hp
      rcases hp with rfl | rfl | rfl | rfl | rfl
      · k_mem
      · k_mem
      · exact mem_sh (by k_mem)
      · k_mem
      · k_mem
    case so =>
      intro p hp
      simp only [List.mem_cons, List.not_mem_nil, or_false] at hp
      rcases hp with rfl | rfl | rfl | rfl
      · exact fun q => ho.1 q.symm
      · exact fun q => Nat.lt_irrefl I (by have q' : D₂ = I := q; rwa [q'] at hI2)
      · exact fun q => ho.2.1 q.symm
      · exact fun q => ho.2.2 q.symm
    case sk => rw [hq3]; omega
end
end Mine
end
section
open PySem PySem.W PySem.Calls PySem.Spec PyProof.Rows
set_option maxRecDepth 100000
set_option linter.unusedVariables false
set_option maxHeartbeats 1000000
namespace Mine
theorem offD3 : True ∨ (if True then True else True) := by (w_top off; first | (right; walk1; fail) | (left; trivial))
section
variable {prog : Program} {w : World} {A : Around} {E : Value → Shared → Prop} {s : Shared} {env : Env} {h₀ : Heap} {x : Str} {body : List Stmt} {Q : Flow → Shared → Prop}
theorem list_inv {I : Addr} {lp : Addr × Obj} {vs : List Value} (J : Nat → (Str → Option Value) → List (Addr × Obj) → Prop)
    (turn : ∀ i v it h tk m news, vs[i]? = some v → J i m news → Fr h₀ env.locals h (fun y => if y = x then some v else m y) → News h₀ env.locals h ((I, it) :: news) →
      wpAny (model prog w) A (execs body env) (UnrPost h₀ env.locals { s with heap := h, toks := tk } I it (fun m' n' => lp ∈ n' ∧ J (i + 1) m' n') Q) E { s with heap := h, toks := tk })
    (done : ∀ m news h tk, J vs.length m news → Fr h₀ env.locals h m → News h₀ env.locals h news → Q .next { s with heap := h, toks := tk }) :
    ∀ (r : List Value) (i : Nat) (m : Str → Option Value) (news : List (Addr × Obj)), vs.drop i = r → i ≤ vs.length → J i m news → ListRest prog w A E h₀ env x body Q s I lp r m news
  | [], i, m, news, hk, hi, hJ => ListRest.zero fun h tk F N => done m news h tk (by have : i = vs.length := by have := congrArg List.length hk; simp at this; omega
                                                                                     rw [← this]; exact hJ) F N
  | v :: r, i, m, news, hk, hi, hJ => ListRest.succ fun it h tk hit F N => by
    have hlt : i < vs.length := by have := congrArg List.length hk; simp at this; omega
    have hv : vs[i]? = some v := by
      have : (vs.drop i)[0]? = some v := by rw [hk]; rfl
      simpa using this
    have hr : vs.drop (i + 1) = r := by rw [← List.drop_drop, hk]; rfl
    refine wpAny_mono (turn i v it h tk m news hv hJ F N) (fun f s₂ p => ?_) fun _ _ e => e
    have fin : UnrEnd h₀ env.locals { s with heap := h, toks := tk } I it (fun m' n' => lp ∈ n' ∧ J (i + 1) m' n') s₂ →
        UnrEnd h₀ env.locals { s with heap := h, toks := tk } I it (fun m' n' => lp ∈ n' ∧ ListRest prog w A E h₀ env x body Q s I lp r m' n') s₂ := by
      rintro ⟨h', tk', m', news', e, F', N', ho, hp, r'⟩
      exact ⟨h', tk', m', news', e, F', N', ho, hp, list_inv J turn done r (i + 1) m' news' hr (by omega) r'⟩
    cases f with
    | ret v => exact p
    | brk => exact p
    | cont => exact fin p
    | next => exact fin p
end
def pv (p : Str × Tok × Int × Tok) : List Value := [.str p.1 p.2.1, .int p.2.2.1 p.2.2.2]
def Pre (i : Nat) (hv : List Value) : Prop := ∃ ps : List (Str × Tok × Int × Tok), ps.length = i ∧ hv = ps.flatMap pv ∧ ∀ p ∈ ps, IsName p.1 ∧ 1 ≤ p.2.2.1 ∧ p.2.2.1 ≤ 3
theorem Pre.len {i : Nat} {hv : List Value} (h : Pre i hv) : hv.length = 2 * i := by
  obtain ⟨ps, rfl, rfl, _⟩ := h
  induction ps with
  | nil => rfl
  | cons p r ih => rw [List.flatMap_cons, List.length_append, ih (fun q hq => by rename_i hall; exact hall q (.tail _ hq)), List.length_cons]; simp only [pv, List.length_cons, List.length_nil]; omega
theorem Pre.zero : Pre 0 [] := ⟨[], rfl, rfl, fun p hp => by cases hp⟩
theorem Pre.succ {i : Nat} {hv : List Value} (h : Pre i hv) {nm : Str} {tn : Tok} {d : Int} {td : Tok} (hn : IsName nm) (hd : 1 ≤ d ∧ d ≤ 3) : Pre (i + 1) (hv ++ [Value.str nm tn, Value.int d td]) := by
  obtain ⟨ps, rfl, rfl, hp⟩ := h
  refine ⟨ps ++ [(nm, tn, d, td)], by simp, by simp [pv], fun p q => ?_⟩
  rcases List.mem_append.mp q with q | q
  · exact hp p q
  · rw [List.mem_singleton.mp q]; exact ⟨hn, hd⟩
structure HostIs (hs : List Value) (a0 a1 a2 a3 : Str) (d0 d1 d2 : Int) : Prop where
  ex : ∃ t0 t1 t2 t3 u0 u1 u2, hs = [.str a0 t0, .int d0 u0, .str a1 t1, .int d1 u1, .str a2 t2, .int d2 u2, .str a3 t3]
  n0 : IsName a0
  n1 : IsName a1
  n2 : IsName a2
  n3 : IsName a3
  b0 : 1 ≤ d0 ∧ d0 ≤ 3
  b1 : 1 ≤ d1 ∧ d1 ≤ 3
  b2 : 1 ≤ d2 ∧ d2 ≤ 3
theorem Pre.host {hv : List Value} (h : Pre 4 hv) : ∃ a0 a1 a2 a3 d0 d1 d2, HostIs (slicePick hv.toArray none (some (-1)) none).toList a0 a1 a2 a3 d0 d1 d2 := by
  obtain ⟨ps, hl, rfl, hp⟩ := h
  match ps, hl with
  | [p, q, r, s], _ =>
    have h0 := hp p (by simp)
    have h1 := hp q (by simp)
    have h2 := hp r (by simp)
    have h3 := hp s (by simp)
    refine ⟨p.1, q.1, r.1, s.1, p.2.2.1, q.2.2.1, r.2.2.1, ⟨p.2.1, q.2.1, r.2.1, s.2.1, p.2.2.2, q.2.2.2, r.2.2.2, ?_⟩, h0.1, h1.1, h2.1, h3.1, h0.2, h1.2, h2.2⟩
    rw [show (-1 : Int) = -((1 : Nat) : Int) from rfl, slicePick_butLast _ 1 (by decide)]
    rfl
local macro_rules | `(tactic| walk_at "binaryOp Add ref ref") => `(tactic| (refine stop_here ?_))
local macro_rules | `(tactic| walk_at "subscriptTail") => `(tactic| (refine stop_here ?_))
local macro_rules | `(tactic| walk_at "exec For") => `(tactic| (refine stop_here ?_))
local macro_rules | `(tactic| walk_at "pyIter ref") => `(tactic| (refine stop_here ?_))
local macro_rules | `(tactic| walk_at "execs cons") => `(tactic| (refine stop_here ?_))
section
variable {w : World} {s : Shared} {Q : Flow → Shared → Prop} {h₀ : Heap} {L fa dn : Addr} {cd : Value} {m mg mb : Str → Option Value} {mean : ExcName → Option Value} {co : Obj} {n0 n1 n2 n3 n4 n5 n6 n7 : Int} {t0 t1 t2 t3 t4 t5 t6 t7 : Tok}
theorem law_b (X : (Mine.hd.heap_39 w.params).In h₀) (T : Top Mine.hd.view_39 lse mean mg mb h₀)
    (F : Fr h₀ L s.heap m) (hm : m (Str.ofString "numbers") = some (.ref dn))
    (N : News h₀ L s.heap [(dn, W.listOf [.int n0 t0, .int n1 t1, .int n2 t2, .int n3 t3, .int n4 t4, .int n5 t5, .int n6 t6, .int n7 t7].toArray 0), (L + 1, co)])
    (hb : ((0 ≤ n0 ∧ n0 < 1000000) ∧ (0 ≤ n1 ∧ n1 < 1000000) ∧ (0 ≤ n2 ∧ n2 < 1000000) ∧ (0 ≤ n3 ∧ n3 < 1000000) ∧ (0 ≤ n4 ∧ n4 < 1000000) ∧ (0 ≤ n5 ∧ n5 < 1000000) ∧ (0 ≤ n6 ∧ n6 < 1000000) ∧ (0 ≤ n7 ∧ n7 < 1000000)))
    (K : ∀ (h' : Heap) (t' : Nat) (m' : Str → Option Value) (hA : Addr) (hs : List Value) a0 a1 a2 a3 d0 d1 d2, HostIs hs a0 a1 a2 a3 d0 d1 d2 → Fr h₀ L h' m' → m' (Str.ofString "numbers") = some (.ref dn) → m' (Str.ofString "host") = some (.ref hA) →
      News h₀ L h' [(hA, W.listOf hs.toArray 0), (dn, W.listOf [.int n0 t0, .int n1 t1, .int n2 t2, .int n3 t3, .int n4 t4, .int n5 t5, .int n6 t6, .int n7 t7].toArray 0), (L + 1, co)] → 
      wpAny (model prg w) (callerA.deeper (envOfC (Str.ofString "law") lawScope L fa cd)) (execs (lawBody.drop 6) (envOfC (Str.ofString "law") lawScope L fa cd)) Q (fun _ _ => False) { s with heap := h', toks := t' }) :
    wpAny (model prg w) (callerA.deeper (envOfC (Str.ofString "law") lawScope L fa cd)) (execs (lawBody.drop 3) (envOfC (Str.ofString "law") lawScope L fa cd)) Q (fun _ _ => False) s := by
  rw [m_set hm] at F
  have hB := (rfl : lawBody.drop 3 = lawBody.drop 3)
  conv at hB => rhs; whnf
  rw [hB]
  clear hB
  refine wpAny_execs_cons ?_
  k_steps
  unfold Stop
  refine wpAny_execs_cons ?_
  (rename News _ _ _ _ => N₁)
  (rename Fr _ _ _ _ => F₁)
  refine For_invV h₀ (by rfl) (by rfl) ?_
  k_steps
  unfold Stop
  (rename News _ _ _ _ => N₂)
  (rename Fr _ _ _ _ => F₂)
  refine iter_listUnr (vs := [.int n0 t0, .int n1 t1, .int n2 t2, .int n3 t3]) rfl F₂ N₂ (.head _) rfl rfl (fun I hI => ?_)
  refine list_inv (vs := [.int n0 t0, .int n1 t1, .int n2 t2, .int n3 t3]) (fun i m news => ∃ hA hv, Pre i hv ∧ m (Str.ofString "host") = some (.ref hA) ∧ m (Str.ofString "numbers") = some (.ref dn) ∧ news = [(_, W.listOf [.int n0 t0, .int n1 t1, .int n2 t2, .int n3 t3].toArray 0), (hA, W.listOf hv.toArray 0), (dn, W.listOf [.int n0 t0, .int n1 t1, .int n2 t2, .int n3 t3, .int n4 t4, .int n5 t5, .int n6 t6, .int n7 t7].toArray 0), (L + 1, co)]) ?sturn ?sdone _ 0 _ _ rfl (by simp) ⟨_, [], Pre.zero, rfl, rfl, rfl⟩
  case sturn =>
    rintro i v it h tk m' news hv ⟨hA, hv', hpre, e1, e2, rfl⟩ F' N'
    have hvv : ∃ n t, v = .int n t ∧ 0 ≤ n ∧ n < 1000000 := by
      have := List.mem_of_getElem? hv
      simp only [List.mem_cons, List.not_mem_nil, or_false] at this
      rcases this with rfl | rfl | rfl | rfl
      · exact ⟨_, _, rfl, hb.1⟩
      · exact ⟨_, _, rfl, hb.2.1⟩
      · exact ⟨_, _, rfl, hb.2.2.1⟩
      · exact ⟨_, _, rfl, hb.2.2.2.1⟩
    obtain ⟨n, t, rfl, hn⟩ := hvv
    have hi4 : i < 4 := by
      have := (List.getElem?_eq_some_iff.mp hv).1
      simpa using this
    refine turn1 X T F' e1 e2 N' hn (by rw [hpre.len]; omega) ⟨fun q => Nat.lt_irrefl I (by have := hI _ (.head _); rwa [← q] at this), fun q => Nat.lt_irrefl I (by have := hI (dn, _) (by k_mem); rwa [← q] at this), fun q => Nat.lt_irrefl I (by have := hI (L + 1, co) (by k_mem); rwa [← q] at this)⟩ ?_
    intro m' hA' nm tn d td q1 q2 q3 q4
    exact ⟨.head _, hA', _, hpre.succ q3 q4, q1, q2, rfl⟩
  case sdone =>
    rintro m' news h tk ⟨hA, hv', hpre, e1, e2, rfl⟩ F' N'
    dsimp only
    rw [m_set e1, m_set e2] at F'
    k_steps
    unfold Stop
    refine wpAny_execs_cons ?_
    k_steps
    unfold Stop
    refine' kmk_slice ?sF ?sN ?sl ?sp ?sq ?_ ?ss ?st ?sz
    case sF => k_asm
    case sN => k_asm
    case sl => exact listOf_is (by with_reducible assumption) (by k_mem)
    case sp => kmk_part
    case sq => kmk_part
    case ss => with_unfolding_all rfl
    case st => kmk_pure
    case sz => 
      have := hpre.len
      have h2 : sizeLine = 16777216 := by decide
      simp at this ⊢; omega
    intro D₃ h₃ F₃ N₃ l₃
    obtain ⟨a0, a1, a2, a3, d0, d1, d2, hH⟩ := hpre.host
    k_steps
    unfold Stop
    dsimp only
    (rename News _ _ _ _ => N₄)
    (rename Fr _ _ _ _ => F₄)
    refine K _ _ _ D₃ _ a0 a1 a2 a3 d0 d1 d2 hH F₄ rfl rfl (fun p hp => N₄ p ?_)
    rw [Array.toArray_toList] at hp
    simp only [List.mem_cons, List.not_mem_nil, or_false] at hp
    rcases hp with rfl | rfl | rfl <;> k_mem
end
end Mine
end
section
open PySem PySem.W PySem.Calls PySem.Spec PyProof.Rows
set_option maxRecDepth 100000
set_option linter.unusedVariables false
set_option maxHeartbeats 200000
namespace Mine
theorem offD4 : True ∨ (if True then True else True) := by (w_top off; first | (right; walk1; fail) | (left; trivial))
local macro_rules | `(tactic| walk_at "binaryOp Add ref ref") => `(tactic| (refine stop_here ?_))
local macro_rules | `(tactic| walk_at "subscriptTail") => `(tactic| (refine stop_here ?_))
local macro_rules | `(tactic| walk_at "subscriptTail Name Slice ref ref") => `(tactic| (refine stop_here ?_))
local macro_rules | `(tactic| walk_at "call builtin:len") => `(tactic| (refine stop_here ?_))
local macro_rules | `(tactic| walk_at "exec If") => `(tactic| (refine wpAny_If ?_))
local macro_rules | `(tactic| walk_at "execs nil") => `(tactic| (refine stop_here ?_))
local macro_rules | `(tactic| walk_at "execs cons") => `(tactic| (refine stop_here ?_))
def RestOf (hs rs : List Value) : Prop := ∃ j, j < 4 ∧ (rs = hs.drop (2 * j) ∨ (∃ t, rs = (hs.drop (2 * j)).take ((hs.drop (2 * j)).length - 1) ++ [.str (Str.ofString "co") t]) ∨ (1 < (hs.drop (2 * j)).length ∧ rs = (hs.drop (2 * j)).take ((hs.drop (2 * j)).length - 2)))
theorem sz_small {xs ys : List Value} (hx : xs.length ≤ 100) (hy : ys.length ≤ 100) : xs.length + ys.length ≤ sizeLine := by
  have : sizeLine = 16777216 := by decide
  omega
theorem fin_co {h₀ h' : Heap} {L D : Addr} {hs : List Value} {j : Nat} {tt : Tok} {x1 x2 x3 : Addr × Obj} {rest : List (Addr × Obj)} (N : News h₀ L h' ((D, W.listOf (((hs.drop (2 * j)).take ((hs.drop (2 * j)).length - 1)).toArray.toList ++ #[Value.str (Str.ofString "co") tt].toList).toArray 0) :: x1 :: x2 :: x3 :: rest)) (hj : j < 4) :
    ∃ rs, RestOf hs rs ∧ News h₀ L h' ((D, W.listOf rs.toArray 0) :: rest) := by
  refine ⟨_, ⟨j, hj, .inr (.inl ⟨tt, rfl⟩)⟩, fun p hp => N p ?_⟩
  rcases List.mem_cons.mp hp with rfl | hp
  · simp
  · exact .tail _ (.tail _ (.tail _ (.tail _ hp)))
theorem fin_two {h₀ h' : Heap} {L D : Addr} {hs : List Value} {j : Nat} {x1 : Addr × Obj} {rest : List (Addr × Obj)} (N : News h₀ L h' ((D, W.listOf ((hs.drop (2 * j)).take ((hs.drop (2 * j)).length - 2)).toArray 0) :: x1 :: rest)) (hj : j < 4) (hl : 1 < (hs.drop (2 * j)).length) :
    ∃ rs, RestOf hs rs ∧ News h₀ L h' ((D, W.listOf rs.toArray 0) :: rest) := by
  refine ⟨_, ⟨j, hj, .inr (.inr ⟨hl, rfl⟩)⟩, fun p hp => N p ?_⟩
  rcases List.mem_cons.mp hp with rfl | hp
  · exact .head _
  · exact .tail _ (.tail _ hp)
theorem fin_as {h₀ h' : Heap} {L D : Addr} {hs : List Value} {j : Nat} {rest : List (Addr × Obj)} (N : News h₀ L h' ((D, W.listOf (hs.drop (2 * j)).toArray 0) :: rest)) (hj : j < 4) :
    ∃ rs, RestOf hs rs ∧ News h₀ L h' ((D, W.listOf rs.toArray 0) :: rest) := ⟨_, ⟨j, hj, .inl rfl⟩, N⟩
section
variable {w : World} {s : Shared} {Q : Flow → Shared → Prop} {h₀ h : Heap} {L fa sc I ax hA ruA : Addr} {cd : Value} {m mg mb : Str → Option Value} {mean : ExcName → Option Value} {it lo ruo : Obj}
  {n : Int} {t : Tok} {tk : Nat} {hs tups : List Value} {more : List (Addr × Obj)} {mail : Str} {tm : Tok}
theorem turn2a (X : (Mine.hd.heap_39 w.params).In h₀) (T : Top Mine.hd.view_39 lse mean mg mb h₀)
    (F : Fr h₀ L h m) (hm0 : m (Str.ofString "x") = some (.int n t)) (hm1 : m (Str.ofString "host") = some (.ref hA)) (hm2 : m (Str.ofString "rules") = some (.ref ruA)) (hm3 : m (Str.ofString "mail") = some (.str mail tm))
    (N : News h₀ L h ((I, it) :: (ax, lo) :: (hA, W.listOf hs.toArray 0) :: (ruA, ruo) :: more))
    (hn : 0 ≤ n ∧ n < 1000000) (h7 : hs.length = 7)
    (K : ∀ (h' : Heap) (t' : Nat) (m' : Str → Option Value) (rA : Addr) (rs : List Value), RestOf hs rs → Fr h₀ L h' m' → m' (Str.ofString "x") = some (.int n t) → m' (Str.ofString "host") = some (.ref hA) → m' (Str.ofString "rules") = some (.ref ruA) → m' (Str.ofString "mail") = some (.str mail tm) → m' (Str.ofString "rest") = some (.ref rA) →
      News h₀ L h' ((rA, W.listOf rs.toArray 0) :: (I, it) :: (ax, lo) :: (hA, W.listOf hs.toArray 0) :: (ruA, ruo) :: more) → (∀ p ∈ (I, it) :: (ax, lo) :: (hA, W.listOf hs.toArray 0) :: (ruA, ruo) :: more, p.1 < rA) →
      wpAny (model prg w) (callerA.deeper (envOfC (Str.ofString "law") lawScope L fa cd)) (execs ((forBody 8).drop 2) (envOfC (Str.ofString "law") lawScope L fa cd)) Q (fun _ _ => False) { s with heap := h', toks := t' }) :
    wpAny (model prg w) (callerA.deeper (envOfC (Str.ofString "law") lawScope L fa cd)) (execs (forBody 8) (envOfC (Str.ofString "law") lawScope L fa cd)) Q (fun _ _ => False) { s with heap := h, toks := tk } := by
  rw [m_set hm0, m_set hm1, m_set hm2, m_set hm3] at F
  have hS := (rfl : lawScope = lawScope)
  conv at hS => rhs; whnf
  have hB := (rfl : forBody 8 = forBody 8)
  conv at hB => rhs; whnf
  rw [hS, hB]
  clear hS hB
  have hf4 : n.fmod 4 = n % 4 := Int.fmod_eq_emod_of_nonneg _ (by decide)
  have hz : hs.toArray.size ≤ sizeLine := by
    have h2 : sizeLine = 16777216 := by decide
    simp; omega
  have hr0 : slicePick hs.toArray (some (2 * n.fmod 4)) none none = (hs.drop (2 * (n.fmod 4).toNat)).toArray := by
    have e : 2 * n.fmod 4 = ((2 * (n.fmod 4).toNat : Nat) : Int) := by rw [hf4]; omega
    rw [e, slicePick_from']
  have hj4 : (n.fmod 4).toNat < 4 := by rw [hf4]; omega
  refine wpAny_execs_cons ?_
  k_steps
  unfold Stop
  refine' kmk_slice ?sF ?sN ?sl ?sp ?sq ?_ ?ss ?st ?sz
  case sF => k_asm
  case sN => k_asm
  case sl => exact listOf_is (by with_reducible assumption) (by k_mem)
  case sp => kmk_part
  case sq => kmk_part
  case ss => with_unfolding_all rfl
  case st => kmk_pure
  case sz => exact hz
  intro D₁ h₁ F₁ N₁ l₁
  rw [hr0] at N₁
  have hID : I < D₁ := l₁ (I, it) (by simp)
  generalize hj : (n.fmod 4).toNat = j at N₁ hj4
  k_steps
  unfold Stop
  refine wpAny_execs_cons ?_
  have hz1 : (hs.drop (2 * j)).toArray.size ≤ sizeLine := by
    have h2 : sizeLine = 16777216 := by decide
    simp; omega
  have hr1 : slicePick (hs.drop (2 * j)).toArray none (some (-1)) none = ((hs.drop (2 * j)).take ((hs.drop (2 * j)).length - 1)).toArray := by
    rw [show (-1 : Int) = -((1 : Nat) : Int) from rfl, slicePick_butLast _ 1 (by decide)]
    simp
  have hr2 : slicePick (hs.drop (2 * j)).toArray none (some (-2)) none = ((hs.drop (2 * j)).take ((hs.drop (2 * j)).length - 2)).toArray := by
    rw [show (-2 : Int) = -((2 : Nat) : Int) from rfl, slicePick_butLast _ 2 (by decide)]
    simp
  k_steps
  · unfold Stop
    refine wpAny_execs_cons ?_
    k_steps
    unfold Stop
    refine' kmk_slice ?sF ?sN ?sl ?sp ?sq ?_ ?ss ?st ?sz
    case sF => k_asm
    case sN => k_asm
    case sl => exact listOf_is (by with_reducible assumption) (by k_mem)
    case sp => kmk_part
    case sq => kmk_part
    case ss => with_unfolding_all rfl
    case st => kmk_pure
    case sz => exact hz1
    intro D₂ h₂ F₂ N₂ l₂
    rw [hr1] at N₂
    k_steps
    unfold Stop
    dsimp only
    (rename News _ _ _ _ => N₃)
    (rename Fr _ _ _ _ => F₃)
    refine' kmk_add_lit F₃ N₃ ?sa ?sb rfl ?_ ?sz
    case sa => exact listOf_is N₃ (by k_mem)
    case sb => exact listOf_is N₃ (by k_mem)
    case sz =>
      exact sz_small (by simp only [List.length_take, List.length_drop]; omega) (by simp only [List.length_cons, List.length_nil]; omega)
    intro D₄ h₄ F₄ N₄ l₄
    have hI4 : I < D₄ := l₄ (I, it) (by k_mem)
    k_steps
    unfold Stop
    refine wpAny_execs_nil ?_
    (try dsimp only)
    (rename News _ _ _ _ => N₅)
    (rename Fr _ _ _ _ => F₅)
    obtain ⟨rs, hR, N₆⟩ := fin_co N₅ hj4
    exact K _ _ _ D₄ rs hR F₅ rfl rfl rfl rfl rfl N₆ (fun p hp => l₄ p (.tail _ (.tail _ (.tail _ hp))))
  · unfold Stop
    refine wpAny_execs_cons ?_
    k_steps
    · unfold Stop
      (try dsimp only)
      (rename News _ _ _ _ => N₃)
      (rename Fr _ _ _ _ => F₃)
      refine len_any (listOf_is N₃ (.head _)) (by simp only [List.length_drop]; omega) ?_
      intro tl tkl
      k_steps
      · unfold Stop
        refine wpAny_execs_cons ?_
        k_steps
        unfold Stop
        refine' kmk_slice ?sF ?sN ?sl ?sp ?sq ?_ ?ss ?st ?sz
        case sF => k_asm
        case sN => k_asm
        case sl => exact listOf_is (by with_reducible assumption) (by k_mem)
        case sp => kmk_part
        case sq => kmk_part
        case ss => with_unfolding_all rfl
        case st => kmk_pure
        case sz => exact hz1
        intro D₂ h₂ F₂ N₂ l₂
        rw [hr2] at N₂
        have hI2 : I < D₂ := l₂ (I, it) (by k_mem)
        k_steps
        unfold Stop
        refine wpAny_execs_nil ?_
        refine wpAny_execs_nil ?_
        (try dsimp only)
        (rename News _ _ _ _ => N₅)
        (rename Fr _ _ _ _ => F₅)
        obtain ⟨rs, hR, N₆⟩ := fin_two N₅ hj4 (by omega)
        exact K _ _ _ D₂ rs hR F₅ rfl rfl rfl rfl rfl N₆ (fun p hp => l₂ p (.tail _ hp))
      · unfold Stop
        refine wpAny_execs_nil ?_
        refine wpAny_execs_nil ?_
        (try dsimp only)
        (rename News _ _ _ _ => N₅)
        (rename Fr _ _ _ _ => F₅)
        obtain ⟨rs, hR, N₆⟩ := fin_as N₅ hj4
        exact K _ _ _ D₁ rs hR F₅ rfl rfl rfl rfl rfl N₆ l₁
    · unfold Stop
      refine wpAny_execs_nil ?_
      refine wpAny_execs_nil ?_
      (try dsimp only)
      (rename News _ _ _ _ => N₅)
      (rename Fr _ _ _ _ => F₅)
      obtain ⟨rs, hR, N₆⟩ := fin_as N₅ hj4
      exact K _ _ _ D₁ rs hR F₅ rfl rfl rfl rfl rfl N₆ l₁
end
end Mine
end
section
open PySem PySem.W PySem.Calls PySem.Spec PyProof.Rows
set_option maxRecDepth 100000
set_option linter.unusedVariables false
set_option maxHeartbeats 200000
namespace Mine
theorem offD5 : True ∨ (if True then True else True) := by (w_top off; first | (right; walk1; fail) | (left; trivial))
local macro_rules | `(tactic| walk_at "subscriptTail") => `(tactic| (refine stop_here ?_))
local macro_rules | `(tactic| walk_at "call builtin:list.append") => `(tactic| (refine stop_here ?_))
local macro_rules | `(tactic| walk_at "call ref") => `(tactic| (refine stop_here ?_))
local macro_rules | `(tactic| walk_at "UnrEnd") => `(tactic| (refine stop_here ?_))
local macro_rules | `(tactic| walk_at "execs nil") => `(tactic| (refine stop_here ?_))
local macro_rules | `(tactic| walk_at "execs cons") => `(tactic| (refine stop_here ?_))
theorem news_rot {h₀ h : Heap} {L : Addr} {a b c d e f : Addr × Obj} {more : List (Addr × Obj)} (N : News h₀ L h (a :: b :: c :: d :: e :: f :: more)) : News h₀ L h (f :: a :: b :: c :: d :: e :: more) := by
  intro p hp
  refine N p ?_
  simp only [List.mem_cons] at hp ⊢
  rcases hp with h | h | h | h | h | h | h
  · exact .inr (.inr (.inr (.inr (.inr (.inl h)))))
  · exact .inl h
  · exact .inr (.inl h)
  · exact .inr (.inr (.inl h))
  · exact .inr (.inr (.inr (.inl h)))
  · exact .inr (.inr (.inr (.inr (.inl h))))
  · exact .inr (.inr (.inr (.inr (.inr (.inr h)))))
theorem spell_len_aux : ∀ (vs : List Value), (∀ v ∈ vs, (vsp v).length ≤ 3) → (spell vs).length ≤ 3 * vs.length
  | [], _ => by simp [spell]
  | v :: r, h => by
    have ih := spell_len_aux r (fun x hx => h x (.tail _ hx))
    have h1 := h v (.head _)
    have e : spell (v :: r) = vsp v ++ spell r := by simp [spell]
    rw [e, List.length_append, List.length_cons]
    omega
theorem spell_len {vs : List Value} (h : Alt vs) : (spell vs).length ≤ 21 := by
  have h3 : ∀ v ∈ vs, (vsp v).length ≤ 3 := by
    intro v hv
    obtain ⟨i, hi, rfl⟩ := List.getElem_of_mem hv
    rcases Nat.mod_two_eq_zero_or_one i with h2 | h2
    · obtain ⟨n, t, e, _, h3⟩ := h.ev i hi h2
      rw [List.getElem?_eq_getElem hi] at e
      rw [Option.some.inj e]
      simpa [vsp, Str.length] using h3
    · obtain ⟨d, u, e, _, h3⟩ := h.od i hi h2
      rw [List.getElem?_eq_getElem hi] at e
      rw [Option.some.inj e]
      simp only [vsp, List.length_replicate]
      omega
  have := spell_len_aux vs h3
  have := h.len
  omega
section
variable {w : World} {s : Shared} {Q : Flow → Shared → Prop} {h₀ h h0 : Heap} {tk0 : Nat} {L fa sc I ax hA ruA rA : Addr} {cd : Value} {m mg mb : Str → Option Value} {mean : ExcName → Option Value} {it lo ho : Obj}
  {n : Int} {t : Tok} {tk nn : Nat} {rs tups : List Value} {more : List (Addr × Obj)} {mail : Str} {tm : Tok} {R : (Str → Option Value) → List (Addr × Obj) → Prop}
abbrev tupO (d : Int) (td : Tok) (rA : Addr) : Obj := { cls := Value.type "tuple", data := Data.seq #[Value.int d td, Value.ref rA] }
def IsSep (x : Str) : Prop := x = Str.ofString "\n" ∨ x = Str.ofString "\r" ∨ x = Str.ofString "\r\n"
theorem end2 {s₁ : Shared} {h' : Heap} {tA D : Addr} {o3 tup lr : Obj} {m' : Str → Option Value} (F : Fr h₀ L h' m') (N : News h₀ L h' ((D, o3) :: (ruA, W.listOf (tups.toArray.push (Value.ref tA)) (nn + 1)) :: (tA, tup) :: (rA, lr) :: (I, it) :: (ax, lo) :: (hA, ho) :: more))
    (hoff : ∀ p ∈ (ax, lo) :: (hA, ho) :: more, p.1 ≠ I) (hrI : rA ≠ I) (htI : tA ≠ I) (hruI : ruA ≠ I)
    (r : R m' ((ax, lo) :: (hA, ho) :: (ruA, W.listOf (tups ++ [Value.ref tA]).toArray (nn + 1)) :: (tA, tup) :: (rA, lr) :: more)) : UnrPost h₀ L s₁ I it R Q .next { s₁ with heap := h', toks := tk } := by
  refine UnrEnd.intro F N _ ?_ ?_ r
  · intro p hp
    have e : (tups ++ [Value.ref tA]).toArray = tups.toArray.push (Value.ref tA) := by simp
    rw [e] at hp
    simp only [List.mem_cons] at hp ⊢
    rcases hp with h | h | h | h | h | h | h
    · exact .inr (.inr (.inr (.inr (.inl h))))
    · exact .inr (.inr (.inr (.inr (.inr (.inl h)))))
    · exact .inr (.inr (.inr (.inr (.inr (.inr (.inl h))))))
    · exact .inr (.inl h)
    · exact .inr (.inr (.inl h))
    · exact .inr (.inr (.inr (.inl h)))
    · exact .inr (.inr (.inr (.inr (.inr (.inr (.inr h))))))
  · intro p hp
    simp only [List.mem_cons] at hp
    rcases hp with h | h | h | h | h | h
    · exact hoff p (by rw [h]; exact .head _)
    · exact hoff p (by rw [h]; exact .tail _ (.head _))
    · rw [h]; exact hruI
    · rw [h]; exact htI
    · rw [h]; exact hrI
    · exact hoff p (.tail _ (.tail _ h))
theorem turn2b (X : (Mine.hd.heap_39 w.params).In h₀) (T : Top Mine.hd.view_39 lse mean mg mb h₀)
    (F : Fr h₀ L h m) (hm0 : m (Str.ofString "x") = some (.int n t)) (hm1 : m (Str.ofString "host") = some (.ref hA)) (hm2 : m (Str.ofString "rules") = some (.ref ruA)) (hm3 : m (Str.ofString "mail") = some (.str mail tm)) (hm4 : m (Str.ofString "rest") = some (.ref rA))
    (N : News h₀ L h ((rA, W.listOf rs.toArray 0) :: (I, it) :: (ax, lo) :: (hA, ho) :: (ruA, W.listOf tups.toArray nn) :: more))
    (hn : 0 ≤ n ∧ n < 1000000) (ha : Alt rs) (htl : tups.length ≤ 10) (hml : mail.length ≤ 1000)
    (hru : ruA ≠ rA ∧ ruA ≠ I ∧ ruA ≠ ax ∧ ruA ≠ hA ∧ ∀ p ∈ more, p.1 ≠ ruA) (hoff : ∀ p ∈ (ax, lo) :: (hA, ho) :: more, p.1 ≠ I) (hrI : rA ≠ I) 
    (K : ∀ (m' : Str → Option Value) (tA : Addr) (d : Int) (td : Tok) (mail' sep : Str) (tm' : Tok), m' (Str.ofString "host") = some (.ref hA) → m' (Str.ofString "rules") = some (.ref ruA) → m' (Str.ofString "mail") = some (.str mail' tm') → 0 ≤ d ∧ d ≤ 2 → IsSep sep → 
      mail'.cps.toList = mail.cps.toList ++ (List.replicate d.toNat 46 ++ spell rs ++ sep.cps.toList) → tA ≠ ruA → tA ≠ I →
      R m' ((ax, lo) :: (hA, ho) :: (ruA, W.listOf (tups ++ [Value.ref tA]).toArray (nn + 1)) :: (tA, tupO d td rA) :: (rA, W.listOf rs.toArray 0) :: more)) :
    wpAny (model prg w) (callerA.deeper (envOfC (Str.ofString "law") lawScope L fa cd)) (execs ((forBody 8).drop 2) (envOfC (Str.ofString "law") lawScope L fa cd)) (UnrPost h₀ L { s with heap := h0, toks := tk0 } I it R Q) (fun _ _ => False) { s with heap := h, toks := tk } := by
  rw [m_set hm0, m_set hm1, m_set hm2, m_set hm3, m_set hm4] at F
  have hS := (rfl : lawScope = lawScope)
  conv at hS => rhs; whnf
  have hB := (rfl : (forBody 8).drop 2 = (forBody 8).drop 2)
  conv at hB => rhs; whnf
  rw [hS, hB]
  clear hS hB
  have hd3 : (n.fdiv 16).fmod 3 = (n / 16) % 3 := by rw [Int.fmod_eq_emod_of_nonneg _ (by decide), Int.fdiv_eq_ediv_of_nonneg _ (by decide)]
  have hd48 : (n.fdiv 48).fmod 3 = (n / 48) % 3 := by rw [Int.fmod_eq_emod_of_nonneg _ (by decide), Int.fdiv_eq_ediv_of_nonneg _ (by decide)]
  have hdd : 0 ≤ (n.fdiv 16).fmod 3 ∧ (n.fdiv 16).fmod 3 ≤ 2 := by rw [hd3]; omega
  refine wpAny_execs_cons ?_
  k_steps
  unfold Stop
  (try dsimp only)
  (rename News _ _ _ _ => N₁)
  (rename Fr _ _ _ _ => F₁)
  (rename (_ < _ ∧ _) => l1)
  rename Addr => tA
  have hlt : ∀ p ∈ (rA, W.listOf rs.toArray 0) :: (I, it) :: (ax, lo) :: (hA, ho) :: more, p.1 ≠ ruA := by
    intro p hp
    simp only [List.mem_cons] at hp
    rcases hp with rfl | rfl | rfl | rfl | hp
    · exact hru.1.symm
    · exact hru.2.1.symm
    · exact hru.2.2.1.symm
    · exact hru.2.2.2.1.symm
    · exact hru.2.2.2.2 p hp
  have hne : tA ≠ ruA := Nat.ne_of_gt l1.2.2.2.2.1
  have hneI : tA ≠ I := Nat.ne_of_gt l1.2.1
  have N₂ := news_rot N₁
  refine append_K F₁ N₂ (Upd.head ?_) ?_ ?_
  · intro p hp
    rcases List.mem_cons.mp hp with rfl | hp
    · exact hne
    · exact hlt p hp
  · intro h₃ F₃ N₃
    clear N₁ F₁ N₂
    k_steps
    unfold Stop
    refine wpAny_execs_cons ?_
    k_steps
    unfold Stop
    (try dsimp only)
    refine sp_spec (vs := rs) ⟨X.keeps F₃.keep, _, _, _, T.keeps F₃.keep⟩ rfl (by rw [depth_deeper]; decide) (listOf_is N₃ (.tail _ (.tail _ (.head _)))) ha ?_
    intro y u h₄ t₄ hk hy
    have F₄ := frKeeps F₃ hk
    have N₄ := newsKeeps N₃ hk
    have hyl : y.length ≤ 21 := by
      have := spell_len ha
      rw [← hy] at this
      simpa [Str.length] using this
    have hmu := dots_len ((n.fdiv 16).fmod 3)
    clear F₃ N₃
    k_steps
    unfold Stop
    (try dsimp only)
    (rename News _ _ _ _ => N₅)
    (rename Fr _ _ _ _ => F₅)
    refine menu_any (P := fun v => ∃ sp ts, v = .str sp ts ∧ IsSep sp) (News.isTup N₅ (.head _)) (by rw [hd48]; omega) (by rw [hd48]; simp only [List.length_cons, List.length_nil]; omega) (by simp only [List.length_cons, List.length_nil]; omega) ?_ ?_
    · intro v hv
      simp only [List.mem_cons, List.not_mem_nil, or_false] at hv
      rcases hv with rfl | rfl | rfl
      · exact ⟨_, _, rfl, .inl rfl⟩
      · exact ⟨_, _, rfl, .inr (.inl rfl)⟩
      · exact ⟨_, _, rfl, .inr (.inr rfl)⟩
    · rintro v ⟨sp, ts, rfl, hsp⟩
      have hspl : sp.length ≤ 2 := by rcases hsp with rfl | rfl | rfl <;> decide
      k_steps
      unfold Stop
      (try dsimp only)
      refine wpAny_execs_nil ?_
      (rename News _ _ _ _ => N₆)
      (rename Fr _ _ _ _ => F₆)
      refine end2 (s₁ := { s with heap := h0, toks := tk0 }) F₆ N₆ hoff hrI hneI hru.2.1 (K _ tA _ _ _ sp _ rfl rfl rfl hdd hsp ?_ hne hneI)
      rw [Str.cps_append, Array.toList_append, Str.cps_append, Array.toList_append, Str.cps_append, Array.toList_append, dots_list, hy]
  · have : sizeLine = 16777216 := by decide
    simp only [List.size_toArray]
    omega
end
end Mine
end
section
open PySem PySem.W PySem.Calls PySem.Spec PyProof.Rows
set_option maxRecDepth 100000
set_option linter.unusedVariables false
set_option maxHeartbeats 200000
namespace Mine
theorem offD6 : True ∨ (if True then True else True) := by (w_top off; first | (right; walk1; fail) | (left; trivial))
theorem IsName.len {x : Str} (h : IsName x) : 1 ≤ x.length ∧ x.length ≤ 3 := by
  rcases h with rfl | rfl | rfl | rfl | rfl <;> decide
theorem alt_one {n : Str} {t : Tok} (h : IsName n) : Alt [.str n t] := by
  refine ⟨fun i hi h2 => ?_, fun i hi h2 => ?_, by simp⟩
  · have : i = 0 := by simp at hi; omega
    subst this
    exact ⟨n, t, rfl, h.len⟩
  · simp at hi; omega
theorem alt_two {n : Str} {t : Tok} {d : Int} {u : Tok} {vs : List Value} (h : IsName n) (hd : 1 ≤ d ∧ d ≤ 3) (ha : Alt vs) (hl : vs.length ≤ 5) : Alt (.str n t :: .int d u :: vs) := by
  refine ⟨fun i hi h2 => ?_, fun i hi h2 => ?_, by simp; omega⟩
  · match i with
    | 0 => exact ⟨n, t, rfl, h.len⟩
    | 1 => omega
    | i + 2 =>
      simp only [List.length_cons] at hi
      exact ha.ev i (by omega) (by omega)
  · match i with
    | 0 => omega
    | 1 => exact ⟨d, u, rfl, hd⟩
    | i + 2 =>
      simp only [List.length_cons] at hi
      exact ha.od i (by omega) (by omega)
theorem co_name : IsName (Str.ofString "co") := .inr (.inr (.inl rfl))
theorem rest_cases {hs rs : List Value} {a0 a1 a2 a3 : Str} {d0 d1 d2 : Int} (H : HostIs hs a0 a1 a2 a3 d0 d1 d2) (hR : RestOf hs rs) :
    ∃ (t0 t1 t2 t3 u0 u1 u2 : Tok), hs = [.str a0 t0, .int d0 u0, .str a1 t1, .int d1 u1, .str a2 t2, .int d2 u2, .str a3 t3] ∧
     (rs = [.str a0 t0, .int d0 u0, .str a1 t1, .int d1 u1, .str a2 t2, .int d2 u2, .str a3 t3] ∨ rs = [.str a1 t1, .int d1 u1, .str a2 t2, .int d2 u2, .str a3 t3] ∨ rs = [.str a2 t2, .int d2 u2, .str a3 t3] ∨ rs = [.str a3 t3] ∨
      (∃ t, rs = [.str a0 t0, .int d0 u0, .str a1 t1, .int d1 u1, .str a2 t2, .int d2 u2, .str (Str.ofString "co") t] ∨ rs = [.str a1 t1, .int d1 u1, .str a2 t2, .int d2 u2, .str (Str.ofString "co") t] ∨ rs = [.str a2 t2, .int d2 u2, .str (Str.ofString "co") t] ∨ rs = [.str (Str.ofString "co") t]) ∨
      rs = [.str a0 t0, .int d0 u0, .str a1 t1, .int d1 u1, .str a2 t2] ∨ rs = [.str a1 t1, .int d1 u1, .str a2 t2] ∨ rs = [.str a2 t2]) := by
  obtain ⟨t0, t1, t2, t3, u0, u1, u2, rfl⟩ := H.ex
  refine ⟨t0, t1, t2, t3, u0, u1, u2, rfl, ?_⟩
  obtain ⟨j, hj, hR⟩ := hR
  have : j = 0 ∨ j = 1 ∨ j = 2 ∨ j = 3 := by omega
  rcases this with rfl | rfl | rfl | rfl <;> rcases hR with rfl | ⟨t, rfl⟩ | ⟨hl, rfl⟩
  · exact .inl rfl
  · exact .inr (.inr (.inr (.inr (.inl ⟨t, .inl rfl⟩))))
  · exact .inr (.inr (.inr (.inr (.inr (.inl rfl)))))
  · exact .inr (.inl rfl)
  · exact .inr (.inr (.inr (.inr (.inl ⟨t, .inr (.inl rfl)⟩))))
  · exact .inr (.inr (.inr (.inr (.inr (.inr (.inl rfl))))))
  · exact .inr (.inr (.inl rfl))
  · exact .inr (.inr (.inr (.inr (.inl ⟨t, .inr (.inr (.inl rfl))⟩))))
  · exact .inr (.inr (.inr (.inr (.inr (.inr (.inr rfl))))))
  · exact .inr (.inr (.inr (.inl rfl)))
  · exact .inr (.inr (.inr (.inr (.inl ⟨t, .inr (.inr (.inr rfl))⟩))))
  · exact absurd hl (by simp)
theorem alt_rest {hs rs : List Value} {a0 a1 a2 a3 : Str} {d0 d1 d2 : Int} (H : HostIs hs a0 a1 a2 a3 d0 d1 d2) (hR : RestOf hs rs) : Alt rs := by
  obtain ⟨t0, t1, t2, t3, u0, u1, u2, _, h⟩ := rest_cases H hR
  have n0 := H.n0
  have n1 := H.n1
  have n2 := H.n2
  have n3 := H.n3
  have b0 := H.b0
  have b1 := H.b1
  have b2 := H.b2
  rcases h with rfl | rfl | rfl | rfl | ⟨t, rfl | rfl | rfl | rfl⟩ | rfl | rfl | rfl
  · exact alt_two n0 b0 (alt_two n1 b1 (alt_two n2 b2 (alt_one n3) (by simp)) (by simp)) (by simp)
  · exact alt_two n1 b1 (alt_two n2 b2 (alt_one n3) (by simp)) (by simp)
  · exact alt_two n2 b2 (alt_one n3) (by simp)
  · exact alt_one n3
  · exact alt_two n0 b0 (alt_two n1 b1 (alt_two n2 b2 (alt_one co_name) (by simp)) (by simp)) (by simp)
  · exact alt_two n1 b1 (alt_two n2 b2 (alt_one co_name) (by simp)) (by simp)
  · exact alt_two n2 b2 (alt_one co_name) (by simp)
  · exact alt_one co_name
  · exact alt_two n0 b0 (alt_two n1 b1 (alt_one n2) (by simp)) (by simp)
  · exact alt_two n1 b1 (alt_one n2) (by simp)
  · exact alt_one n2
theorem alt_host {hs : List Value} {a0 a1 a2 a3 : Str} {d0 d1 d2 : Int} (H : HostIs hs a0 a1 a2 a3 d0 d1 d2) : Alt hs := alt_rest H ⟨0, by decide, .inl rfl⟩
structure RR where
  tA : Addr
  td : Tok
  rA : Addr
  d : Int
  rs : List Value
  sep : Str
def RR.row (r : RR) : List Nat := List.replicate r.d.toNat 46 ++ spell r.rs ++ r.sep.cps.toList
structure RR.Ok (hs : List Value) (more : List (Addr × Obj)) (r : RR) : Prop where
  mt : (r.tA, tupO r.d r.td r.rA) ∈ more
  mr : (r.rA, W.listOf r.rs.toArray 0) ∈ more
  rest : RestOf hs r.rs
  bd : 0 ≤ r.d ∧ r.d ≤ 2
  bs : IsSep r.sep
def rowsOf (ws : List RR) : List Nat := (ws.map RR.row).flatten
theorem row_len {hs : List Value} {a0 a1 a2 a3 : Str} {d0 d1 d2 : Int} (H : HostIs hs a0 a1 a2 a3 d0 d1 d2) {more : List (Addr × Obj)} {r : RR} (h : r.Ok hs more) : r.row.length ≤ 25 := by
  have h1 := spell_len (alt_rest H h.rest)
  have h2 := h.bd
  have h3 : r.sep.cps.toList.length ≤ 2 := by rcases h.bs with e | e | e <;> rw [e] <;> decide
  unfold RR.row
  rw [List.length_append, List.length_append, List.length_replicate]
  omega
theorem rows_len {hs : List Value} {a0 a1 a2 a3 : Str} {d0 d1 d2 : Int} (H : HostIs hs a0 a1 a2 a3 d0 d1 d2) {more : List (Addr × Obj)} : ∀ {ws : List RR}, (∀ r ∈ ws, r.Ok hs more) → (rowsOf ws).length ≤ 25 * ws.length
  | [], _ => by decide
  | r :: ws, h => by
    have ih := rows_len H (ws := ws) (fun x hx => h x (.tail _ hx))
    have h1 := row_len H (h r (.head _))
    have e : rowsOf (r :: ws) = r.row ++ rowsOf ws := by simp [rowsOf]
    rw [e, List.length_append, List.length_cons]
    omega
theorem news_swap {h₀ h : Heap} {L : Addr} {a b c : Addr × Obj} {r : List (Addr × Obj)} (N : News h₀ L h (a :: b :: c :: r)) : News h₀ L h (a :: c :: b :: r) := by
  intro p hp
  refine N p ?_
  simp only [List.mem_cons] at hp ⊢
  rcases hp with h | h | h | h
  · exact .inl h
  · exact .inr (.inr (.inl h))
  · exact .inr (.inl h)
  · exact .inr (.inr (.inr h))
theorem m_skip {m : Str → Option Value} {x y : Str} {v u : Value} (e : m x = some v) (h : x ≠ y) : (fun z => if z = y then some u else m z) x = some v := by
  show (if x = y then some u else m x) = some v
  rw [if_neg h, e]
theorem HostIs.len {hs : List Value} {a0 a1 a2 a3 : Str} {d0 d1 d2 : Int} (H : HostIs hs a0 a1 a2 a3 d0 d1 d2) : hs.length = 7 := by
  obtain ⟨_, _, _, _, _, _, _, rfl⟩ := H.ex
  rfl
theorem RR.Ok.mono {hs : List Value} {more more' : List (Addr × Obj)} {r : RR} (h : r.Ok hs more) (hs' : ∀ p ∈ more, p ∈ more') : r.Ok hs more' := ⟨hs' _ h.mt, hs' _ h.mr, h.rest, h.bd, h.bs⟩
local macro_rules | `(tactic| walk_at "exec For") => `(tactic| (refine stop_here ?_))
local macro_rules | `(tactic| walk_at "pyIter ref") => `(tactic| (refine stop_here ?_))
local macro_rules | `(tactic| walk_at "execs cons") => `(tactic| (refine stop_here ?_))
section
variable {w : World} {s : Shared} {Q : Flow → Shared → Prop} {h₀ : Heap} {L fa dn hA : Addr} {cd : Value} {m mg mb : Str → Option Value} {mean : ExcName → Option Value} {co : Obj} {n0 n1 n2 n3 n4 n5 n6 n7 : Int} {t0 t1 t2 t3 t4 t5 t6 t7 : Tok} {hs : List Value} {a0 a1 a2 a3 : Str} {d0 d1 d2 : Int}
theorem law_c (X : (Mine.hd.heap_39 w.params).In h₀) (T : Top Mine.hd.view_39 lse mean mg mb h₀)
    (F : Fr h₀ L s.heap m) (hm : m (Str.ofString "numbers") = some (.ref dn)) (hm' : m (Str.ofString "host") = some (.ref hA)) (H : HostIs hs a0 a1 a2 a3 d0 d1 d2)
    (N : News h₀ L s.heap [(hA, W.listOf hs.toArray 0), (dn, W.listOf [.int n0 t0, .int n1 t1, .int n2 t2, .int n3 t3, .int n4 t4, .int n5 t5, .int n6 t6, .int n7 t7].toArray 0), (L + 1, co)])
    (hb : ((0 ≤ n0 ∧ n0 < 1000000) ∧ (0 ≤ n1 ∧ n1 < 1000000) ∧ (0 ≤ n2 ∧ n2 < 1000000) ∧ (0 ≤ n3 ∧ n3 < 1000000) ∧ (0 ≤ n4 ∧ n4 < 1000000) ∧ (0 ≤ n5 ∧ n5 < 1000000) ∧ (0 ≤ n6 ∧ n6 < 1000000) ∧ (0 ≤ n7 ∧ n7 < 1000000)))
    (K : ∀ (h' : Heap) (t' : Nat) (m' : Str → Option Value) (ruA : Addr) (ws : List RR) (more : List (Addr × Obj)) (mail : Str) (tm : Tok), ws.length = 4 → (∀ r ∈ ws, r.Ok hs more) → Fr h₀ L h' m' → m' (Str.ofString "host") = some (.ref hA) → m' (Str.ofString "rules") = some (.ref ruA) →
      m' (Str.ofString "mail") = some (.str mail tm) → mail.cps.toList = rowsOf ws → (L + 1, co) ∈ more →
      News h₀ L h' ((hA, W.listOf hs.toArray 0) :: (ruA, W.listOf (ws.map (fun r => Value.ref r.tA)).toArray 4) :: more) → 
      wpAny (model prg w) (callerA.deeper (envOfC (Str.ofString "law") lawScope L fa cd)) (execs (lawBody.drop 9) (envOfC (Str.ofString "law") lawScope L fa cd)) Q (fun _ _ => False) { s with heap := h', toks := t' }) :
    wpAny (model prg w) (callerA.deeper (envOfC (Str.ofString "law") lawScope L fa cd)) (execs (lawBody.drop 6) (envOfC (Str.ofString "law") lawScope L fa cd)) Q (fun _ _ => False) s := by
  rw [m_set hm, m_set hm'] at F
  have hB := (rfl : lawBody.drop 6 = lawBody.drop 6)
  conv at hB => rhs; whnf
  rw [hB]
  clear hB
  refine wpAny_execs_cons ?_
  k_steps
  unfold Stop
  refine wpAny_execs_cons ?_
  k_steps
  unfold Stop
  refine wpAny_execs_cons ?_
  refine For_invV h₀ (by rfl) (by rfl) ?_
  k_steps
  unfold Stop
  (rename News _ _ _ _ => N₂)
  (rename Fr _ _ _ _ => F₂)
  rename_i ruA _ l1 _ _ ax _ l2
  refine iter_listUnr (vs := [.int n4 t4, .int n5 t5, .int n6 t6, .int n7 t7]) rfl F₂ (news_swap N₂) (.head _) rfl rfl (fun I hI => ?_)
  refine list_inv (vs := [.int n4 t4, .int n5 t5, .int n6 t6, .int n7 t7]) (fun i m news => ∃ ru ws more mail tm, ws.length = i ∧ (∀ r ∈ ws, RR.Ok hs more r) ∧ m (Str.ofString "host") = some (.ref hA) ∧ m (Str.ofString "rules") = some (.ref ru) ∧ m (Str.ofString "mail") = some (.str mail tm) ∧ mail.cps.toList = rowsOf ws ∧ (L + 1, co) ∈ more ∧
     (ru ≠ I ∧ ru ≠ ax ∧ ru ≠ hA ∧ ∀ p ∈ more, p.1 ≠ ru) ∧ (∀ p ∈ (ax, W.listOf [.int n4 t4, .int n5 t5, .int n6 t6, .int n7 t7].toArray 0) :: (hA, W.listOf hs.toArray 0) :: more, p.1 ≠ I) ∧ news = (ax, W.listOf [.int n4 t4, .int n5 t5, .int n6 t6, .int n7 t7].toArray 0) :: (hA, W.listOf hs.toArray 0) :: (ru, W.listOf (ws.map (fun r => Value.ref r.tA)).toArray i) :: more) ?sturn ?sdone _ 0 _ _ rfl (by simp) ?sinit
  case sinit =>
    have q := fun p hp => Nat.ne_of_lt (hI p hp)
    refine ⟨ruA, [], [(dn, W.listOf [.int n0 t0, .int n1 t1, .int n2 t2, .int n3 t3, .int n4 t4, .int n5 t5, .int n6 t6, .int n7 t7].toArray 0), (L + 1, co)], Str.ofString "", _, rfl, ?_, rfl, rfl, rfl, rfl, List.Mem.tail _ (List.Mem.head _), ⟨q (ruA, _) (List.Mem.tail _ (List.Mem.tail _ (List.Mem.head _))), Nat.ne_of_lt l2.1, Nat.ne_of_gt l1.1, ?_⟩, ?_, rfl⟩
    · intro r hr
      cases hr
    · intro p hp
      simp only [List.mem_cons, List.not_mem_nil, or_false] at hp
      rcases hp with rfl | rfl
      · exact Nat.ne_of_lt l1.2.1
      · exact Nat.ne_of_lt l1.2.2
    · intro p hp
      refine q p ?_
      simp only [List.mem_cons, List.not_mem_nil, or_false] at hp ⊢
      rcases hp with h | h | h | h
      · exact .inl h
      · exact .inr (.inl h)
      · exact .inr (.inr (.inr (.inl h)))
      · exact .inr (.inr (.inr (.inr h)))
  case sturn =>
    rintro i v it h tk m' news hv ⟨ru, ws, more, mail, tm, hwl, hok, e1, e2, e3, hmail, hco, hru, hoff, rfl⟩ F' N'
    have hvv : ∃ n t, v = .int n t ∧ 0 ≤ n ∧ n < 1000000 := by
      have := List.mem_of_getElem? hv
      simp only [List.mem_cons, List.not_mem_nil, or_false] at this
      rcases this with rfl | rfl | rfl | rfl
      · exact ⟨_, _, rfl, hb.2.2.2.2.1⟩
      · exact ⟨_, _, rfl, hb.2.2.2.2.2.1⟩
      · exact ⟨_, _, rfl, hb.2.2.2.2.2.2.1⟩
      · exact ⟨_, _, rfl, hb.2.2.2.2.2.2.2⟩
    obtain ⟨n, t, rfl, hn⟩ := hvv
    have hi4 : i < 4 := by
      have := (List.getElem?_eq_some_iff.mp hv).1
      simpa using this
    refine turn2a X T F' (if_pos rfl) (m_skip e1 (by decide)) (m_skip e2 (by decide)) (m_skip e3 (by decide)) N' hn H.len ?_
    intro h₅ t₅ m₅ rA rs hR F₅ x0 x1 x2 x3 x4 N₅ l₅
    have hml : mail.length ≤ 1000 := by
      have h1 := rows_len H hok
      rw [← hmail] at h1
      have : mail.length = mail.cps.toList.length := by simp [Str.length]
      omega
    refine turn2b X T F₅ x0 x1 x2 x3 x4 N₅ hn (alt_rest H hR) (by simp; omega) hml ⟨Nat.ne_of_lt (l₅ (ru, _) (.tail _ (.tail _ (.tail _ (.head _))))), hru⟩ hoff (Nat.ne_of_gt (l₅ (I, it) (.head _))) ?_
    intro m₆ tA d td mail' sep tm' y1 y2 y3 hd hsep hm6 hne htI
    refine ⟨.head _, ru, ws ++ [⟨tA, td, rA, d, rs, sep⟩], (tA, tupO d td rA) :: (rA, W.listOf rs.toArray 0) :: more, mail', tm', by simp [hwl], ?_, y1, y2, y3, ?_, .tail _ (.tail _ hco), ⟨hru.1, hru.2.1, hru.2.2.1, ?_⟩, ?_, ?_⟩
    · intro r hr
      rcases List.mem_append.mp hr with q | q
      · exact (hok r q).mono (fun p hp => .tail _ (.tail _ hp))
      · rw [List.mem_singleton.mp q]
        exact ⟨.head _, .tail _ (.head _), hR, hd, hsep⟩
    · rw [hm6, hmail]
      simp [rowsOf, RR.row]
    · intro p hp
      simp only [List.mem_cons] at hp
      rcases hp with rfl | rfl | hp
      · exact hne
      · exact Nat.ne_of_gt (l₅ (ru, _) (.tail _ (.tail _ (.tail _ (.head _)))))
      · exact hru.2.2.2 p hp
    · intro p hp
      simp only [List.mem_cons] at hp
      rcases hp with h | h | h | h | h
      · exact hoff p (by rw [h]; exact .head _)
      · exact hoff p (by rw [h]; exact .tail _ (.head _))
      · rw [h]; exact htI
      · rw [h]; exact Nat.ne_of_gt (l₅ (I, it) (.head _))
      · exact hoff p (.tail _ (.tail _ h))
    · rw [List.map_append]
      rfl
  case sdone =>
    rintro m' news h tk ⟨ru, ws, more, mail, tm, hwl, hok, e1, e2, e3, hmail, hco, hru, hoff, rfl⟩ F' N'
    exact K _ _ _ ru ws more mail tm hwl hok F' e1 e2 e3 hmail hco (fun p hp => N' p (.tail _ hp))
end
end Mine
end
section
open PySem PySem.W PySem.Calls PySem.Spec PyProof.Rows
set_option maxRecDepth 100000
set_option linter.unusedVariables false
set_option maxHeartbeats 200000
namespace Mine
theorem offD7 : True ∨ (if True then True else True) := by (w_top off; first | (right; walk1; fail) | (left; trivial))
section
variable {prog : Program} {w : World} {A : Around} {E : Value → Shared → Prop} {s : Shared} {env : Env} {h₀ : Heap} {x : Str} {px : Pos} {body : List Stmt} {Q : Flow → Shared → Prop}
theorem iter_rangeT {r : Addr} {a₀ b₀ c : Int} {t₀ u₀ v₀ : Tok} {n : Nat} {m₀ : Str → Option Value} {news : List (Addr × Obj)} (J : Nat → (Str → Option Value) → List (Addr × Obj) → Prop)
    (hh : A.handled = none) (hr : IsRange s.heap r a₀ b₀ c t₀ u₀ v₀) (hsmall : Builtin.Range.small a₀ b₀ c = true) (hn : Builtin.Range.rangeSize a₀ b₀ c = (n : Int)) (F : Fr h₀ env.locals s.heap m₀) (N : News h₀ env.locals s.heap news)
    (hJ0 : J 0 m₀ news)
    (turn : ∀ I i t h tk m₁ news₁, i < n → J i m₁ news₁ → (∀ p ∈ news₁, p.1 ≠ I) → Fr h₀ env.locals h m₁ → News h₀ env.locals h ((I, krsIt (a₀ + ((i + 1 : Nat) : Int) * c) ((n : Int) - ((i + 1 : Nat) : Int)) c) :: news₁) →
      wpAny (model prog w) A (assign (.Name x px) env (.int (a₀ + (i : Int) * c) t)) (fun _ s₂ => wpAny (model prog w) A (execs body env) (UnrPost h₀ env.locals { s with heap := h, toks := tk } I (krsIt (a₀ + ((i + 1 : Nat) : Int) * c) ((n : Int) - ((i + 1 : Nat) : Int)) c) (J (i + 1)) Q) E s₂) E { s with heap := h, toks := tk })
    (done : ∀ m₁ news₁ h tk, J n m₁ news₁ → Fr h₀ env.locals h m₁ → News h₀ env.locals h news₁ → Q .next { s with heap := h, toks := tk }) :
    wpAny (model prog w) A (pyIter (.ref r)) (fun it s₂ => TurnsAt prog w A h₀ env (.Name x px) body Q E it s₂) E s := by
  refine wpAny_pyIter_range hr hsmall ?_
  have W : Walks prog w A s.heap.objs.size [s.heap.objs.size] [s.heap.objs.size] n (fun i v => i < n ∧ ∃ t, v = .int (a₀ + i * c) t)
      (fun i h => IsRangeIter h s.heap.objs.size (a₀ + (i : Nat) * c) ((n : Int) - (i : Nat)) c) := (Walks.range hh _ a₀ c n).bound
  have hnew := next_is_new F
  refine ⟨_, _, _, n, _, _, _, m₀, news, J, rfl, KTurns.ofWalks (target := .Name x px) W (fun i v s Q E st q => wpAny_pure q), ?_, ?_, ?_, (by show IsRangeIter _ _ _ _ _; rw [hn]; simpa using Heap.get?_push_size _ rfl), F.push _, (fun p hp => ⟨Heap.get?_push_of_some _ (N p hp).1, (N p hp).2⟩), hJ0, ?_, ?_⟩
  · intro hm
    exact absurd F.ns.lt ((List.mem_singleton.mp hm) ▸ Nat.lt_irrefl _)
  · intro b hb
    rw [List.mem_singleton.mp hb]
    exact hnew
  · intro p hp hI
    exact absurd (Heap.lt_size (N p hp).1) ((List.mem_singleton.mp hI) ▸ Nat.lt_irrefl _)
  · rintro i v m₁ news₁ hh' tk' own hin ⟨_, t, rfl⟩ hJ hoff hown hget hall hst F₁ N₁
    have hst' : hh'.get? s.heap.objs.size = some (krsIt (a₀ + ((i + 1 : Nat) : Int) * c) ((n : Int) - ((i + 1 : Nat) : Int)) c) := hst
    have hmem := hall s.heap.objs.size (List.mem_singleton.mpr rfl) hnew _ hst'
    have N₂ : News h₀ env.locals hh' ((s.heap.objs.size, krsIt (a₀ + ((i + 1 : Nat) : Int) * c) ((n : Int) - ((i + 1 : Nat) : Int)) c) :: news₁) := fun p hp => by
      rcases List.mem_cons.mp hp with rfl | hp
      · exact N₁ _ (List.mem_append_left _ hmem)
      · exact N₁ _ (List.mem_append_right _ hp)
    refine wpAny_mono (turn _ i t hh' tk' m₁ news₁ hin hJ (fun p hp e => hoff p hp (List.mem_singleton.mpr e)) F₁ N₂) (fun _ s₃ q => wpAny_mono q (fun f s₂ p => ?_) fun _ _ e => e) fun _ _ e => e
    have fin : UnrEnd h₀ env.locals { s with heap := hh', toks := tk' } s.heap.objs.size (krsIt (a₀ + ((i + 1 : Nat) : Int) * c) ((n : Int) - ((i + 1 : Nat) : Int)) c) (J (i + 1)) s₂ →
        LoopStepU h₀ env.locals [s.heap.objs.size] own (J (i + 1)) { s with heap := hh', toks := tk' } .next s₂ := by
      rintro ⟨h', tk, m', news', e, F', N', ho, r⟩
      refine ⟨rfl, h', tk, m', news', e, F', fun p hp => ?_, fun p hp hI => ho p hp (List.mem_singleton.mp hI), r⟩
      rcases List.mem_append.mp hp with hp | hp
      · have h1 : p.1 = s.heap.objs.size := List.mem_singleton.mp (hown p hp)
        have h2 : hh'.get? p.1 = some p.2 := hget p hp
        have h3 : p = (s.heap.objs.size, krsIt (a₀ + ((i + 1 : Nat) : Int) * c) ((n : Int) - ((i + 1 : Nat) : Int)) c) := by
          rw [h1, hst'] at h2
          exact Prod.ext h1 (Option.some.inj h2).symm
        rw [h3]; exact N' _ (List.mem_cons_self ..)
      · exact N' _ (List.mem_cons_of_mem _ hp)
    cases f with
    | ret v => exact .ret p
    | brk => exact .brk p
    | next => exact .next (fin p)
    | cont => exact .cont (fin p)
  · rintro h' tk m' news' F' N' _ hJ
    exact done m' news' h' tk hJ F' N'
end
end Mine
end
section
open PySem PySem.W PySem.Calls PySem.Spec PyProof.Rows
set_option maxRecDepth 100000
set_option linter.unusedVariables false
set_option maxHeartbeats 400000
namespace Mine
theorem offD8 : True ∨ (if True then True else True) := by (w_top off; first | (right; walk1; fail) | (left; trivial))
section
variable {prog : Program} {w : World} {A : Around} {s : Shared} {h₀ : Heap} {L : Addr} {m : Str → Option Value} {env : Env} {elt : Expr} {x x₂ : Str} {scope : Scope} {cl : List (Str × Addr)} {S : List (Addr × Obj) → Prop} {P : Nat → Value → Prop} {Fin : List Value → List (Addr × Obj) → Prop}
theorem compP_inv {n : Nat} (J : Nat → List Value → List (Addr × Obj) → Prop)
    (turn : ∀ i v ys news, i < n → P i v → J i ys news → ∃ (t : Addr) (ot : Obj) (v₁ v₂ : Value) (nt : Nat), v = .ref t ∧ (t, ot) ∈ news ∧ ot.cls = .type "tuple" ∧ ot.data = .seq #[v₁, v₂] nt ∧
      ∀ I oI C oC D m₂ h tk (E' : Value → Shared → Prop), LCg.NsObj oC m₂ → m₂ x = some v₁ → m₂ x₂ = some v₂ → Fr h₀ L h m → News h₀ L h ((I, oI) :: (C, oC) :: (D, LCg.lst ys) :: news) → LCg.Off3 I C D news → ((@Ne Nat I C) ∧ (@Ne Nat I D) ∧ (@Ne Nat C D)) →
      wpAny (model prog w) A (eval elt (compEnvC scope cl C env)) (LCg.CompEnd h₀ L m { s with heap := h, toks := tk } I oI C oC D (LCg.lst ys) S (fun y news' => J (i + 1) (ys ++ [y]) news')) E' { s with heap := h, toks := tk })
    (fin : ∀ ys news, J n ys news → Fin ys news) :
    ∀ (k i : Nat) (ys : List Value) (news : List (Addr × Obj)), i + k = n → J i ys news → LCp.CompRestP prog w A h₀ L m env elt x x₂ scope cl s S P Fin k i ys news
  | 0, i, ys, news, hk, hJ => LCp.CompRestP.zero (fin ys news (by have : i = n := by omega
                                                                  rw [← this]; exact hJ))
  | k + 1, i, ys, news, hk, hJ => LCp.CompRestP.succ fun v hv => by
    obtain ⟨t, ot, v₁, v₂, nt, e1, e2, e3, e4, h⟩ := turn i v ys news (by omega) hv hJ
    refine ⟨t, ot, v₁, v₂, nt, e1, e2, e3, e4, fun I oI C oC D m₂ h' tk E' a b c d e f g => ?_⟩
    refine wpAny_mono (h I oI C oC D m₂ h' tk E' a b c d e f g) (fun y s₂ p => ?_) fun _ _ e => e
    obtain ⟨h2, tk2, news', q1, q2, q3, q4, q5, q6⟩ := p
    exact ⟨h2, tk2, news', q1, q2, q3, q4, q5, compP_inv J turn fin k (i + 1) _ news' (by omega) q6⟩
end
def dueD (i d : Int) : Int := if 0 < d then d + i else 0
def DueP (D : Int) (s : Shared) (v : Value) (s' : Shared) : Prop := ∃ tok tk, v = .int D tok ∧ s' = { s with toks := tk }
theorem if_join {M : Model} {A : Around} {E : Value → Shared → Prop} {s : Shared} {e : Expr} {env : Env} {Q : Value → Shared → Prop} (D : Int)
    (h1 : wpAny M A (eval e env) (DueP D s) E s) (h2 : ∀ tok tk, Q (.int D tok) { s with toks := tk }) : wpAny M A (eval e env) Q E s :=
  wpAny_mono h1 (by rintro v s' ⟨tok, tk, rfl, rfl⟩; exact h2 tok tk) fun _ _ e => e
theorem due_pos {i d : Int} (h : 0 < d) : d + i = dueD i d := by unfold dueD; rw [if_pos h]
theorem due_neg {i d : Int} (h : ¬ 0 < d) : 0 = dueD i d := by unfold dueD; rw [if_neg h]
theorem m_unset2 {m : Str → Option Value} {x y : Str} {u v : Value} (h1 : m x = some u) (h2 : m y = some v) : (fun z => if z = x then some u else if z = y then some v else m z) = m := by
  funext z
  by_cases q : z = x
  · rw [if_pos q, q, h1]
  · rw [if_neg q]
    by_cases q2 : z = y
    · rw [if_pos q2, q2, h2]
    · rw [if_neg q2]
theorem end3 {h₀ h' : Heap} {L U I C D a b : Addr} {m : Str → Option Value} {s₁ : Shared} {tk : Nat} {tup oI oC oD co lo : Obj} {more : List (Addr × Obj)} {S : List (Addr × Obj) → Prop} {rest : Value → List (Addr × Obj) → Prop}
    (F : Fr h₀ L h' m) (N : News h₀ L h' ((U, tup) :: (I, oI) :: (C, oC) :: (D, oD) :: (a, co) :: (b, lo) :: more)) (l : I < U ∧ C < U ∧ D < U) (off : LCg.Off3 I C D ((a, co) :: (b, lo) :: more))
    (hS : S ((a, co) :: (b, lo) :: (U, tup) :: more)) (r : rest (.ref U) ((a, co) :: (b, lo) :: (U, tup) :: more)) :
    LCg.CompEnd h₀ L m s₁ I oI C oC D oD S rest (.ref U) { s₁ with heap := h', toks := tk } := by
  obtain ⟨o1, o2, o3⟩ := off
  refine LCg.CompEnd.intro F N ((a, co) :: (b, lo) :: (U, tup) :: more) ?_ ⟨o1, o2, ⟨Nat.ne_of_gt l.1, Nat.ne_of_gt l.2.1, Nat.ne_of_gt l.2.2⟩, o3⟩ hS r
  intro p hp
  simp only [List.mem_cons] at hp ⊢
  rcases hp with h | h | h | h | h | h | h
  · exact .inr (.inl h)
  · exact .inr (.inr (.inl h))
  · exact .inr (.inr (.inr (.inl h)))
  · exact .inr (.inr (.inr (.inr (.inl h))))
  · exact .inr (.inr (.inr (.inr (.inr (.inl h)))))
  · exact .inl h
  · exact .inr (.inr (.inr (.inr (.inr (.inr h)))))
local macro_rules | `(tactic| walk_at "eval IfExp") => `(tactic| (refine stop_here ?_))
local macro_rules | `(tactic| walk_at "SrcLP") => `(tactic| (refine stop_here ?_))
local macro_rules | `(tactic| walk_at "CompRestP") => `(tactic| (refine stop_here ?_))
local macro_rules | `(tactic| walk_at "CompEnd") => `(tactic| (refine stop_here ?_))
local macro_rules | `(tactic| walk_at "execs cons") => `(tactic| (refine stop_here ?_))
section
variable {w : World} {s : Shared} {Q : Flow → Shared → Prop} {h₀ h : Heap} {tk : Nat} {L fa sc I hA ruA : Addr} {cd : Value} {m mg mb : Str → Option Value} {mean : ExcName → Option Value} {it ho co : Obj}
  {t : Tok} {hs : List Value} {i : Int} {ws : List RR} {more : List (Addr × Obj)}
theorem turn3a (X : (Mine.hd.heap_39 w.params).In h₀) (T : Top Mine.hd.view_39 lse mean mg mb h₀)
    (F : Fr h₀ L h m) (hm1 : m (Str.ofString "host") = some (.ref hA)) (hm2 : m (Str.ofString "rules") = some (.ref ruA)) (hi : 0 ≤ i ∧ i ≤ 3) (hco : co.data = .cell (some (.int i t)))
    (N : News h₀ L h ((L + 1, co) :: (ruA, W.listOf (ws.map (fun r => Value.ref r.tA)).toArray 4) :: more)) (hok : ∀ r ∈ ws, r.Ok hs more) (h4 : ws.length = 4)
    (K : ∀ (h' : Heap) (t' : Nat) (dA : Addr) (us : List (Addr × Tok)) (more' : List (Addr × Obj)), us.length = 4 → Fr h₀ L h' (fun z => if z = Str.ofString "due" then some (.ref dA) else m z) →
      News h₀ L h' ((dA, LCg.lst (us.map (fun u => Value.ref u.1))) :: (L + 1, co) :: (ruA, W.listOf (ws.map (fun r => Value.ref r.tA)).toArray 4) :: more') → (∀ p ∈ more, p ∈ more') →
      (∀ (k : Nat) (u : Addr × Tok) (r : RR), us[k]? = some u → ws[k]? = some r → (u.1, tupO (dueD i r.d) u.2 r.rA) ∈ more') →
      wpAny (model prg w) (callerA.deeper (envOfC (Str.ofString "law") lawScope L fa cd)) (execs ((forBody 10).drop 1) (envOfC (Str.ofString "law") lawScope L fa cd)) Q (fun _ _ => False) { s with heap := h', toks := t' }) :
    wpAny (model prg w) (callerA.deeper (envOfC (Str.ofString "law") lawScope L fa cd)) (execs (forBody 10) (envOfC (Str.ofString "law") lawScope L fa cd)) Q (fun _ _ => False) { s with heap := h, toks := tk } := by
  rw [m_set hm1, m_set hm2] at F
  have hS := (rfl : lawScope = lawScope)
  conv at hS => rhs; whnf
  have hB := (rfl : forBody 10 = forBody 10)
  conv at hB => rhs; whnf
  rw [hS, hB]
  clear hS hB
  refine wpAny_execs_cons ?_
  k_steps
  unfold Stop
  (try dsimp only)
  have hz : ((ws.map (fun r => Value.ref r.tA)).toArray).size = 4 := by simp [h4]
  refine LCp.SrcLP.ledger (its := (ws.map (fun r => Value.ref r.tA)).toArray) (k := 4) rfl F N (.tail _ (.head _)) (by rw [hz]; decide) ?_
  intro g
  rw [hz]
  refine compP_inv (n := 4) (fun j ys news => ∃ (us : List (Addr × Tok)) (more' : List (Addr × Obj)), us.length = j ∧ ys = us.map (fun u => Value.ref u.1) ∧ news = (L + 1, co) :: (ruA, W.listOf (ws.map (fun r => Value.ref r.tA)).toArray 4) :: more' ∧ (∀ p ∈ more, p ∈ more') ∧ (∀ (k : Nat) (u : Addr × Tok) (r : RR), us[k]? = some u → ws[k]? = some r → (u.1, tupO (dueD i r.d) u.2 r.rA) ∈ more')) ?sturn ?sfin 4 0 [] _ rfl ⟨[], more, rfl, rfl, rfl, fun p hp => hp, fun k u r hu => by simp at hu⟩
  case sturn =>
    rintro j v ys news hj hv ⟨us, more', hul, rfl, rfl, hsub, hus⟩
    have hv' : ∃ r, ws[j]? = some r ∧ v = .ref r.tA := by
      have : (ws.map (fun r => Value.ref r.tA))[j]? = some v := by simpa using hv
      rw [List.getElem?_map] at this
      obtain ⟨r, h1, h2⟩ := Option.map_eq_some_iff.mp this
      exact ⟨r, h1, h2.symm⟩
    obtain ⟨r, hr, rfl⟩ := hv'
    have hrm := hok r (List.mem_of_getElem? hr)
    refine ⟨r.tA, tupO r.d r.td r.rA, .int r.d r.td, .ref r.rA, 0, rfl, .tail _ (.tail _ (hsub _ hrm.mt)), rfl, rfl, ?_⟩
    intro I oI C oC D m₂ h₂ tk₂ E' hC hx hy F₂ N₂ off ne
    have hbd := hrm.bd
    clear N F
    k_steps
    unfold Stop
    refine if_join (dueD i r.d) ?_ ?_
    · refine wpAny_IfExp ?_
      k_steps
      · exact ⟨_, _, by rw [due_pos (by assumption)], rfl⟩
      · exact ⟨_, _, by rw [← due_neg (by assumption)], rfl⟩
    · intro tok0 tk0
      k_steps
      unfold Stop
      (try dsimp only)
      (rename News _ _ _ _ => N₃)
      (rename Fr _ _ _ _ => F₃)
      (rename (_ < _ ∧ _) => l1)
      rename_i U _
      refine end3 F₃ N₃ ⟨l1.1, l1.2.1, l1.2.2.1⟩ off (.inr ⟨_, .tail _ (.head _), rfl, _, rfl⟩) ⟨us ++ [(U, tok0)], _ :: more', by simp [hul], by simp, rfl, fun p hp => .tail _ (hsub p hp), ?_⟩
      intro k u r' hu hr'
      by_cases hk : k < us.length
      · rw [List.getElem?_append_left hk] at hu
        exact .tail _ (hus k u r' hu hr')
      · have hkj : k = us.length := by
          have := (List.getElem?_eq_some_iff.mp hu).1
          simp at this
          omega
        subst hkj
        rw [hul] at hr'
        have : r' = r := Option.some.inj (hr'.symm.trans hr)
        subst this
        have : u = (U, tok0) := by simpa using hu.symm
        subst this
        exact .head _
  case sfin =>
    rintro ys news ⟨us, more', hul, rfl, rfl, hsub, hus⟩
    intro D h₃ tk₃ F₃ N₃ o1
    rw [m_unset2 hm1 hm2] at F₃
    exact K _ _ D us more' hul F₃ N₃ hsub hus
end
end Mine
end
section
open PySem PySem.W PySem.Calls PySem.Spec PyProof.Rows
set_option linter.unusedVariables false
namespace Mine
theorem offQ0 : True ∨ (if True then True else True) := by (w_top off; first | (right; walk1; fail) | (left; trivial))
theorem runs_toks {M : Model} {Γ : PySem.Ctx} {p : Pos} {t : Sem Fin} {fs : List Frame} {s : Shared} {e : End} {s' : Shared} (h : Runs M Γ p t fs s e s') : s.toks ≤ s'.toks := by
  induction h <;> first | exact Nat.le_refl _ | assumption | (exact Nat.le_of_succ_le (by assumption)) | (rename_i a b; exact Nat.le_trans a b) | (simp only [Shared.setGen] at *; omega)
theorem wakes_toks {M : Model} {Γ : PySem.Ctx} {p : Pos} {g : Nat} {r : Resume} {s : Shared} {res : GenResult} {s' : Shared} (h : Wakes M Γ p g r s res s') : s.toks ≤ s'.toks := by
  unfold Wakes at h
  split at h
  · exact h.elim
  · split at h
    · obtain ⟨e₁, s₁, hr, _, _, rfl⟩ := h
      (have q := runs_toks hr); exact q
    · rw [h.2]; exact Nat.le_refl _
    · rw [h.2]; exact Nat.le_refl _
  · obtain ⟨e₁, s₁, hr, _, _, rfl⟩ := h
    (have q := runs_toks hr); exact q
  · rw [h.2]; exact Nat.le_refl _
  · rw [h.2]; exact Nat.le_refl _
theorem wp_toks {α : Type} {M : Model} {Γ : PySem.Ctx} {n : Nat} (t : Sem α) : ∀ (Q : α → Pos → Shared → Prop) (E : Value → Pos → Shared → Prop) (p : Pos) (s : Shared), n ≤ s.toks →
    Sem.wp M Γ t (fun a p s' => n ≤ s'.toks → Q a p s') E p s → Sem.wp M Γ t Q E p s := by
  induction t with
  | pure a => intro Q E p s h0 h; exact h h0
  | raise e => intro Q E p s h0 h; exact h
  | unsupported e => intro Q E p s h0 h; exact h
  | finish e => intro Q E p s h0 h; exact h
  | rule tag k ih => intro Q E p s h0 h; exact ih () Q E p s h0 h
  | «at» p' k ih => intro Q E p s h0 h; exact ih () Q E p' s h0 h
  | load a b k ih => intro Q E p s h0 h; obtain ⟨o, ho, h⟩ := h; exact ⟨o, ho, ih o Q E p s h0 h⟩
  | update a b f k ih => intro Q E p s h0 h; exact ⟨h.1, ih () Q E p _ h0 h.2⟩
  | loadIfAlive a k ih => intro Q E p s h0 h; exact ih _ Q E p s h0 h
  | point l k ih => intro Q E p s h0 h; exact ih () Q E p s h0 h
  | register a k ih => intro Q E p s h0 h; exact h
  | alloc o k ih => intro Q E p s h0 h; exact ih _ Q E p _ h0 h
  | fresh k ih => intro Q E p s h0 h; exact ih _ Q E p _ (Nat.le_succ_of_le h0) h
  | ask k ih => intro Q E p s h0 h; exact ih _ Q E p s h0 h
  | choose src m k ih => intro Q E p s h0 h; exact ⟨h.1, ih _ Q E p _ h0 h.2⟩
  | os q l k ih => intro Q E p s h0 h; exact ih _ Q E p _ h0 h
  | call c hd g l k ih =>
    intro Q E p s h0 h
    obtain ⟨r, s', hr, h⟩ := h
    exact ⟨r, s', hr, ih r Q E p s' (Nat.le_trans h0 (runs_toks hr)) h⟩
  | handled own k ih => intro Q E p s h0 h; exact ih _ Q E p s h0 h
  | genState g k ih => intro Q E p s h0 h; obtain ⟨st, hs, h⟩ := h; exact ⟨st, hs, ih _ Q E p s h0 h⟩
  | newGen c k ih => intro Q E p s h0 h; exact ih _ Q E p _ h0 h
  | resume g r l k ih =>
    intro Q E p s h0 h
    obtain ⟨res, s', hw, h⟩ := h
    exact ⟨res, s', hw, ih res Q E p s' (Nat.le_trans h0 (wakes_toks hw)) h⟩
  | yield v g l k ih => intro Q E p s h0 h; exact h
  | stack k ih => intro Q E p s h0 h; exact ih _ Q E p s h0 h
  | fork c k ih => intro Q E p s h0 h; exact h
  | thread k ih => intro Q E p s h0 h; exact ih _ Q E p s h0 h
  | await a f d l k ih => intro Q E p s h0 h; exact h
theorem carry {α : Type} {M : Model} {A : Around} {t : Sem α} {Q : α → Shared → Prop} {E : Value → Shared → Prop} {s : Shared} (h0 : 0 < s.toks)
    (h : wpAny M A t (fun a s' => 0 < s'.toks → Q a s') E s) : wpAny M A t Q E s :=
  fun Γ p hΓ => wp_toks (n := 1) t _ _ p s h0 (h Γ p hΓ)
end Mine
end
section
open PySem PySem.W PySem.Calls PySem.Spec PyProof.Rows
set_option maxRecDepth 100000
set_option linter.unusedVariables false
set_option maxHeartbeats 400000
namespace Mine
theorem offD9 : True ∨ (if True then True else True) := by (w_top off; first | (right; walk1; fail) | (left; trivial))
local macro_rules | `(tactic| walk_at "call ref") => `(tactic| (refine stop_here ?_))
local macro_rules | `(tactic| walk_at "call builtin:str.join") => `(tactic| (refine stop_here ?_))
local macro_rules | `(tactic| walk_at "exec If") => `(tactic| (refine wpAny_If ?_))
local macro_rules | `(tactic| walk_at "execs nil") => `(tactic| (refine stop_here ?_))
local macro_rules | `(tactic| walk_at "eval ListComp") => `(tactic| (k_dflt (refine carry (by (try dsimp only); omega) ?_); k_dflt (refine LCp.ListComp_P (F₀ := by k_asm) (by with_unfolding_all rfl) (by decide) (by rfl) (by decide) (by rfl) (by rfl) (by decide) ?_); k_dflt lcp_toSrc))
local macro_rules | `(tactic| walk_at "SrcLP") => `(tactic| (refine stop_here ?_))
local macro_rules | `(tactic| walk_at "CompRestP") => `(tactic| (refine stop_here ?_))
local macro_rules | `(tactic| walk_at "CompEnd") => `(tactic| (refine stop_here ?_))
local macro_rules | `(tactic| walk_at "execs cons") => `(tactic| (refine stop_here ?_))
section
variable {w : World} {s : Shared} {Q : Flow → Shared → Prop} {h₀ h : Heap} {tk : Nat} {L fa sc I hA ruA dA : Addr} {cd : Value} {m mg mb : Str → Option Value} {mean : ExcName → Option Value} {it ho co : Obj}
  {t tm : Tok} {hs : List Value} {i : Int} {ws : List RR} {us : List (Addr × Tok)} {more : List (Addr × Obj)} {mail : Str} {a0 a1 a2 a3 : Str} {d0 d1 d2 : Int}
def mailN (i : Int) (ws : List RR) : List Nat := (ws.map (fun r => List.replicate (dueD i r.d).toNat 46 ++ spell r.rs ++ [13, 10])).flatten
theorem snocS {zs : List (Str × Tok)} {j : Nat} {z : Str} {tk : Tok} {r : RR} (hzl : zs.length = j) (hzs : ∀ (k : Nat) (z : Str × Tok) (r : RR), zs[k]? = some z → ws[k]? = some r → z.1.cps.toList = List.replicate (dueD i r.d).toNat 46 ++ spell r.rs ++ [13, 10])
    (hr : ws[j]? = some r) (h : z.cps.toList = List.replicate (dueD i r.d).toNat 46 ++ spell r.rs ++ [13, 10]) :
    ∃ zs' : List (Str × Tok), zs'.length = j + 1 ∧ zs.map (fun z => Value.str z.1 z.2) ++ [Value.str z tk] = zs'.map (fun z => Value.str z.1 z.2) ∧ ∀ (k : Nat) (z : Str × Tok) (r : RR), zs'[k]? = some z → ws[k]? = some r → z.1.cps.toList = List.replicate (dueD i r.d).toNat 46 ++ spell r.rs ++ [13, 10] := by
  refine ⟨zs ++ [(z, tk)], by simp [hzl], by simp, ?_⟩
  intro k z' r' hz' hr'
  by_cases hk : k < zs.length
  · rw [List.getElem?_append_left hk] at hz'
    exact hzs k z' r' hz' hr'
  · have hkj : k = zs.length := by
      have := (List.getElem?_eq_some_iff.mp hz').1
      simp at this
      omega
    subst hkj
    rw [hzl] at hr'
    have e : r' = r := Option.some.inj (hr'.symm.trans hr)
    have e2 : z' = (z, tk) := by simpa using hz'.symm
    rw [e, e2]
    exact h
theorem strs_of {zs : List (Str × Tok)} : StrsAre (zs.map (fun z => Value.str z.1 z.2)) (zs.map (·.1)) := by
  induction zs with
  | nil => exact .nil
  | cons z r ih => exact .cons z.1 z.2 ih
theorem str_ext {x y : Str} (h : x.cps.toList = y.cps.toList) : x = y := by
  cases x with | mk a =>
  cases y with | mk b =>
  have : a = b := Array.toList_inj.mp h
  rw [this]
theorem row_short (H : HostIs hs a0 a1 a2 a3 d0 d1 d2) (hi : 0 ≤ i ∧ i ≤ 3) {r : RR} (h : r.Ok hs more) : (List.replicate (dueD i r.d).toNat 46 ++ spell r.rs ++ [13, 10]).length ≤ 28 := by
  have h1 := spell_len (alt_rest H h.rest)
  have hbd := h.bd
  have hdb : 0 ≤ dueD i r.d ∧ dueD i r.d ≤ 5 := by unfold dueD; split <;> omega
  rw [List.length_append, List.length_append, List.length_replicate]
  simp only [List.length_cons, List.length_nil]
  omega
theorem join_rows (H : HostIs hs a0 a1 a2 a3 d0 d1 d2) (hi : 0 ≤ i ∧ i ≤ 3) (hok : ∀ r ∈ ws, r.Ok hs more) (h4 : ws.length = 4) {zs : List (Str × Tok)} (hzl : zs.length = 4)
    (hzs : ∀ (k : Nat) (z : Str × Tok) (r : RR), zs[k]? = some z → ws[k]? = some r → z.1.cps.toList = List.replicate (dueD i r.d).toNat 46 ++ spell r.rs ++ [13, 10]) :
    (Txt.join (Str.ofString "") (zs.map (·.1))).cps.toList = mailN i ws ∧ ((zs.map (·.1)).map (·.length)).sum + (zs.map (·.1)).length ≤ 1048576 := by
  match zs, hzl, ws, h4 with
  | [z0, z1, z2, z3], _, [w0, w1, w2, w3], _ =>
    have e0 := hzs 0 z0 w0 rfl rfl
    have e1 := hzs 1 z1 w1 rfl rfl
    have e2 := hzs 2 z2 w2 rfl rfl
    have e3 := hzs 3 z3 w3 rfl rfl
    constructor
    · rw [show Txt.join (Str.ofString "") ([z0, z1, z2, z3].map (·.1)) = Str.join (Str.ofString "") ([z0, z1, z2, z3].map (·.1)) from StrLaws.glued_eq_join _ _]
      show (z0.1 ++ Str.ofString "" ++ (z1.1 ++ Str.ofString "" ++ (z2.1 ++ Str.ofString "" ++ z3.1))).cps.toList = _
      simp only [Str.cps_append, Array.toList_append]
      rw [e0, e1, e2, e3]
      have : (Str.ofString "").cps.toList = [] := by decide
      rw [this]
      simp [mailN]
    · have l0 := row_short H hi (hok w0 (by simp))
      have l1 := row_short H hi (hok w1 (by simp))
      have l2 := row_short H hi (hok w2 (by simp))
      have l3 := row_short H hi (hok w3 (by simp))
      rw [← e0] at l0
      rw [← e1] at l1
      rw [← e2] at l2
      rw [← e3] at l3
      simp only [Array.length_toList] at l0 l1 l2 l3
      simp only [List.map_cons, List.map_nil, List.sum_cons, List.sum_nil, List.length_cons, List.length_nil, Str.length]
      omega
theorem turn3b (X : (Mine.hd.heap_39 w.params).In h₀) (T : Top Mine.hd.view_39 lse mean mg mb h₀) (H : HostIs hs a0 a1 a2 a3 d0 d1 d2)
    (F : Fr h₀ L h m) (hm1 : m (Str.ofString "mail") = some (.str mail tm)) (hm2 : m (Str.ofString "due") = some (.ref dA)) (hi : 0 ≤ i ∧ i ≤ 3) (hco : co.data = .cell (some (.int i t)))
    (N : News h₀ L h ((dA, LCg.lst (us.map (fun u => Value.ref u.1))) :: (L + 1, co) :: more)) (hok : ∀ r ∈ ws, r.Ok hs more) (h4 : ws.length = 4) (hu4 : us.length = 4)
    (hus : ∀ (k : Nat) (u : Addr × Tok) (r : RR), us[k]? = some u → ws[k]? = some r → (u.1, tupO (dueD i r.d) u.2 r.rA) ∈ more)
    (hml : mail.cps.size < 1000) (hq : 0 < i → dotq true (crlf mail.cps.toList) = mailN i ws)
    (K : ∀ (h' : Heap) (t' : Nat) (m' : Str → Option Value) (mail' : Str) (tm' : Tok), 0 < t' → Fr h₀ L h' m' → m' (Str.ofString "mail") = some (.str mail' tm') → (∀ z, z ≠ Str.ofString "mail" → m' z = m z) → 
      News h₀ L h' ((dA, LCg.lst (us.map (fun u => Value.ref u.1))) :: (L + 1, co) :: more) → (0 < i → mail'.cps.toList = mailN i ws) → (¬ 0 < i → mail' = mail) →
      wpAny (model prg w) (callerA.deeper (envOfC (Str.ofString "law") lawScope L fa cd)) (execs ((forBody 10).drop 2) (envOfC (Str.ofString "law") lawScope L fa cd)) Q (fun _ _ => False) { s with heap := h', toks := t' }) :
    wpAny (model prg w) (callerA.deeper (envOfC (Str.ofString "law") lawScope L fa cd)) (execs ((forBody 10).drop 1) (envOfC (Str.ofString "law") lawScope L fa cd)) Q (fun _ _ => False) { s with heap := h, toks := tk } := by
  rw [m_set hm1, m_set hm2] at F
  have hS := (rfl : lawScope = lawScope)
  conv at hS => rhs; whnf
  have hB := (rfl : (forBody 10).drop 1 = (forBody 10).drop 1)
  conv at hB => rhs; whnf
  rw [hS, hB]
  clear hS hB
  refine wpAny_execs_cons ?_
  k_steps
  · unfold Stop
    refine wpAny_execs_cons ?_
    k_steps
    unfold Stop
    (try dsimp only)
    refine quote_spec ⟨X.keeps F.keep, _, _, _, T.keeps F.keep⟩ (by rw [depth_deeper]; decide) (by omega) ?_
    intro y u h₄ t₄ hk hy
    have F₄ := frKeeps F hk
    have N₄ := newsKeeps N hk
    clear F N
    k_steps
    unfold Stop
    refine wpAny_execs_cons ?_
    k_steps
    unfold Stop
    (try dsimp only)
    (rename News _ _ _ _ => N₅)
    (rename Fr _ _ _ _ => F₅)
    have hz : ((us.map (fun u => Value.ref u.1)).toArray).size = 4 := by simp [hu4]
    refine LCp.SrcLP.ledger (its := (us.map (fun u => Value.ref u.1)).toArray) rfl F₅ N₅ (.head _) (by rw [hz]; decide) ?_
    intro g
    rw [hz]
    refine compP_inv (n := 4) (fun j ys news => news = (dA, LCg.lst (us.map (fun u => Value.ref u.1))) :: (L + 1, co) :: more ∧ ∃ zs : List (Str × Tok), zs.length = j ∧ ys = zs.map (fun z => Value.str z.1 z.2) ∧ ∀ (k : Nat) (z : Str × Tok) (r : RR), zs[k]? = some z → ws[k]? = some r → z.1.cps.toList = List.replicate (dueD i r.d).toNat 46 ++ spell r.rs ++ [13, 10]) ?sturn ?sfin 4 0 [] _ rfl ⟨rfl, [], rfl, rfl, fun k u r hu => by simp at hu⟩
    case sturn =>
      rintro j v ys news hj hv ⟨rfl, zs, hzl, rfl, hzs⟩
      have hv' : ∃ u, us[j]? = some u ∧ v = .ref u.1 := by
        have : (us.map (fun u => Value.ref u.1))[j]? = some v := by simpa using hv
        rw [List.getElem?_map] at this
        obtain ⟨r, h1, h2⟩ := Option.map_eq_some_iff.mp this
        exact ⟨r, h1, h2.symm⟩
      obtain ⟨u, hu, rfl⟩ := hv'
      obtain ⟨r, hr⟩ : ∃ r, ws[j]? = some r := ⟨ws[j]'(by omega), List.getElem?_eq_getElem (by omega)⟩
      have hrm := hok r (List.mem_of_getElem? hr)
      have hut := hus j u r hu hr
      refine ⟨u.1, tupO (dueD i r.d) u.2 r.rA, .int (dueD i r.d) u.2, .ref r.rA, 0, rfl, .tail _ (.tail _ hut), rfl, rfl, ?_⟩
      intro I oI C oC D m₂ h₂ tk₂ E' hC hx hy F₂ N₂ off ne
      have hbd := hrm.bd
      have hdb : 0 ≤ dueD i r.d ∧ dueD i r.d ≤ 5 := by unfold dueD; split <;> omega
      clear N₅ F₅
      k_steps
      unfold Stop
      (try dsimp only)
      refine sp_spec (vs := r.rs) ⟨X.keeps F₂.keep, _, _, _, T.keeps F₂.keep⟩ rfl (by rw [depth_deeper]; decide) (listOf_is N₂ (.tail _ (.tail _ (.tail _ (.tail _ (.tail _ hrm.mr)))))) (alt_rest H hrm.rest) ?_
      intro y' u' h₆ t₆ hk' hy'
      have F₆ := frKeeps F₂ hk'
      have N₆ := newsKeeps N₂ hk'
      have hyl : y'.length ≤ 21 := by
        have := spell_len (alt_rest H hrm.rest)
        rw [← hy'] at this
        simpa [Str.length] using this
      have hmu := dots_len (dueD i r.d)
      clear F₂ N₂
      k_steps
      unfold Stop
      (try dsimp only)
      refine LCg.CompEnd.intro F₆ N₆ _ (fun p hp => hp) off (.inr ⟨_, .head _, rfl, _, rfl⟩) ⟨rfl, snocS hzl hzs hr ?_⟩
      rw [Str.cps_append, Array.toList_append, Str.cps_append, Array.toList_append, dots_list, hy']
      rfl
    case sfin =>
      rintro ys news ⟨rfl, zs, hzl, rfl, hzs⟩
      intro D h₃ tk₃ F₃ N₃ o1
      (try dsimp only)
      intro hp₃
      k_steps
      unfold Stop
      (try dsimp only)
      refine carry hp₃ (join_listW (ys := zs.map (·.1)) ⟨_, N₃.get (.head _), rfl, _, rfl⟩ ?j1 (by decide) ?j2 ?_)
      case j1 => exact strs_of
      case j2 => exact (join_rows H hi hok h4 hzl hzs).2
      intro t₇ k₇ hp₇
      have hjy : Txt.join (Str.ofString "") (zs.map (·.1)) = y := by
        apply str_ext
        rw [(join_rows H hi hok h4 hzl hzs).1, hy, hq (by assumption)]
      rw [hjy]
      k_steps
      · exfalso
        (rename ((y != y) = true) => hne)
        simp at hne
      · unfold Stop
        refine wpAny_execs_nil ?_
        refine wpAny_execs_nil ?_
        (try dsimp only)
        refine K _ _ _ y u (by (try dsimp only at hp₇ ⊢); omega) F₃ rfl ?_ (fun p hp => N₃ p (.tail _ hp)) (fun _ => ?_) (fun q => ?_)
        · intro z hzz
          show (if z = Str.ofString "mail" then _ else if z = Str.ofString "mail" then _ else if z = Str.ofString "due" then some (Value.ref dA) else m z) = m z
          rw [if_neg hzz, if_neg hzz]
          by_cases q : z = Str.ofString "due"
          · rw [if_pos q, q, hm2]
          · rw [if_neg q]
        · rw [hy, hq (by assumption)]
        · exfalso; omega
  · unfold Stop
    refine wpAny_execs_nil ?_
    (try dsimp only)
    (rename News _ _ _ _ => N₅)
    (rename Fr _ _ _ _ => F₅)
    rw [m_unset2 hm1 hm2] at F₅
    refine K _ _ _ mail tm (by (try dsimp only); omega) F₅ hm1 (fun z _ => rfl) N₅ (fun q => ?_) (fun _ => rfl)
    exfalso; omega
end
end Mine
end
section
open PySem PySem.W PySem.Calls PySem.Spec PyProof.Rows
set_option linter.unusedVariables false
namespace Mine
theorem offP1 : True ∨ (if True then True else True) := by (w_top off; first | (right; walk1; fail) | (left; trivial))
def rep2 : List Nat → List Nat
  | [] => []
  | 13 :: 10 :: r => 10 :: rep2 r
  | c :: r => c :: rep2 r
theorem rep2_cons {c : Nat} {r : List Nat} (h : ¬ (c = 13 ∧ ∃ r', r = 10 :: r')) : rep2 (c :: r) = c :: rep2 r := by
  rw [rep2]
  intro r' h1 h2
  exact h ⟨h1, r', h2⟩
theorem rep2_free : ∀ {t : List Nat} (r : List Nat), (∀ c ∈ t, c ≠ 13) → rep2 (t ++ r) = t ++ rep2 r
  | [], r, h => rfl
  | c :: t, r, h => by
    have hc := h c (.head _)
    rw [List.cons_append, rep2_cons (fun q => hc q.1), rep2_free r (fun x hx => h x (.tail _ hx))]
    rfl
theorem crlf_free' : ∀ {t : List Nat} (r : List Nat), (∀ c ∈ t, c ≠ 10 ∧ c ≠ 13) → crlf (t ++ r) = t ++ crlf r
  | [], r, h => rfl
  | c :: t, r, h => by
    have hc := h c (.head _)
    rw [List.cons_append, crlf_plain (fun q => q.elim hc.1 hc.2), crlf_free' r (fun x hx => h x (.tail _ hx))]
    rfl
theorem crlf_lone {r : List Nat} (h : ∀ r', r ≠ 10 :: r') : crlf (13 :: r) = 13 :: 10 :: crlf r := by
  rw [crlf]
  · rw [if_pos (.inr rfl)]
  · intro r' _ h2; exact h r' h2
theorem crlf_ten {r : List Nat} : crlf (10 :: r) = 13 :: 10 :: crlf r := by
  rw [crlf]
  · rw [if_pos (.inl rfl)]
  · intro r' h1 h2; cases h1
theorem dotq_pass : ∀ {t : List Nat} (r : List Nat), (∀ c ∈ t, c ≠ 10) → dotq false (t ++ r) = t ++ dotq false r
  | [], r, h => rfl
  | c :: t, r, h => by
    have hc := h c (.head _)
    have e : (c == 10) = false := by simp [hc]
    show (if false = true ∧ c = 46 then _ else c :: dotq (c == 10) (t ++ r)) = _
    rw [if_neg (fun q => nomatch q.1), e, dotq_pass r (fun x hx => h x (.tail _ hx))]
    rfl
def dots1 : List Nat → List Nat
  | 46 :: t => 46 :: 46 :: t
  | t => t
theorem dotq_row {t : List Nat} (r : List Nat) (h : ∀ c ∈ t, c ≠ 10) (hn : t ≠ []) : dotq true (t ++ r) = dots1 t ++ dotq false r := by
  match t, hn with
  | c :: t, _ =>
    have hc := h c (.head _)
    have e : (c == 10) = false := by simp [hc]
    show (if true = true ∧ c = 46 then 46 :: 46 :: dotq false (t ++ r) else c :: dotq (c == 10) (t ++ r)) = _
    rw [e, dotq_pass r (fun x hx => h x (.tail _ hx))]
    by_cases q : c = 46
    · subst q
      rw [if_pos ⟨rfl, rfl⟩]; rfl
    · rw [if_neg (fun p => q p.2)]
      have : dots1 (c :: t) = c :: t := by
        rw [dots1]
        intro t' h1; exact q (by injection h1)
      rw [this]; rfl
structure GoodRow (p : List Nat × List Nat) : Prop where
  ne : p.1 ≠ []
  free : ∀ c ∈ p.1, c ≠ 10 ∧ c ≠ 13
  sep : p.2 = [10] ∨ p.2 = [13] ∨ p.2 = [13, 10]
def rowsG (rows : List (List Nat × List Nat)) : List Nat := (rows.map (fun p => p.1 ++ p.2)).flatten
theorem rowsG_cons (p : List Nat × List Nat) (r : List (List Nat × List Nat)) : rowsG (p :: r) = p.1 ++ (p.2 ++ rowsG r) := by simp [rowsG]
theorem rowsG_head {rows : List (List Nat × List Nat)} (h : ∀ p ∈ rows, GoodRow p) : ∀ r', rowsG rows ≠ 10 :: r' := by
  intro r' e
  match rows with
  | [] => cases e
  | p :: r =>
    have g := h p (.head _)
    rw [rowsG_cons] at e
    match hp : p.1, g.ne with
    | c :: t, _ =>
      rw [hp] at e
      injection e with e1 e2
      exact (g.free c (by rw [hp]; exact .head _)).1 e1
theorem crlf_rows : ∀ {rows : List (List Nat × List Nat)}, (∀ p ∈ rows, GoodRow p) → crlf (rowsG rows) = rowsG (rows.map (fun p => (p.1, [13, 10])))
  | [], _ => rfl
  | p :: r, h => by
    have g := h p (.head _)
    have ih := crlf_rows (rows := r) (fun x hx => h x (.tail _ hx))
    have hd := rowsG_head (rows := r) (fun x hx => h x (.tail _ hx))
    rw [rowsG_cons, crlf_free' _ g.free, List.map_cons, rowsG_cons, ← ih]
    congr 1
    rcases g.sep with e | e | e <;> rw [e]
    · exact crlf_ten
    · exact crlf_lone hd
    · rfl
theorem dotq_rows : ∀ {rows : List (List Nat × List Nat)}, (∀ p ∈ rows, GoodRow p) → dotq true (rowsG (rows.map (fun p => (p.1, [13, 10])))) = rowsG (rows.map (fun p => (dots1 p.1, [13, 10])))
  | [], _ => rfl
  | p :: r, h => by
    have g := h p (.head _)
    have ih := dotq_rows (rows := r) (fun x hx => h x (.tail _ hx))
    rw [List.map_cons, rowsG_cons, dotq_row _ (fun c hc => (g.free c hc).1) g.ne, List.map_cons, rowsG_cons, ← ih]
    rfl
def m13 (c : Nat) : Nat := if c = 13 then 10 else c
theorem m13_free : ∀ {t : List Nat}, (∀ c ∈ t, c ≠ 13) → t.map m13 = t
  | [], h => rfl
  | c :: t, h => by
    rw [List.map_cons, m13_free (fun x hx => h x (.tail _ hx))]
    unfold m13
    rw [if_neg (h c (.head _))]
theorem m13_rows : ∀ {rows : List (List Nat × List Nat)}, (∀ p ∈ rows, GoodRow p) → (rep2 (rowsG rows)).map m13 = rowsG (rows.map (fun p => (p.1, [10])))
  | [], _ => rfl
  | p :: r, h => by
    have g := h p (.head _)
    have ih := m13_rows (rows := r) (fun x hx => h x (.tail _ hx))
    have hd := rowsG_head (rows := r) (fun x hx => h x (.tail _ hx))
    rw [rowsG_cons, rep2_free _ (fun c hc => (g.free c hc).2), List.map_append, m13_free (fun c hc => (g.free c hc).2), List.map_cons, rowsG_cons, ← ih]
    congr 1
    rcases g.sep with e | e | e <;> rw [e]
    · show (rep2 (10 :: rowsG r)).map m13 = _
      rw [rep2_cons (fun q => by cases q.1)]
      rfl
    · show (rep2 (13 :: rowsG r)).map m13 = _
      rw [rep2_cons (fun q => by obtain ⟨_, r', e⟩ := q; exact hd r' e)]
      rfl
    · rfl
-- str.replace by two signs
open StrLaws Builtin Builtin.Str
theorem at2 (x : Str) (i : Nat) : At x ⟨#[13, 10]⟩ x.length i ↔ x.cps.toList[i]? = some 13 ∧ x.cps.toList[i + 1]? = some 10 := by
  unfold At
  rw [subAt_eq]
  have hn : x.cps.toList.length = x.length := by simp [Str.length]
  have h2 : (⟨#[13, 10]⟩ : Str).length = 2 := rfl
  rw [h2]
  generalize x.cps.toList = l at hn
  constructor
  · rintro ⟨h1, h⟩
    have h := eq_of_beq h
    have e0 := congrArg (fun l : List Nat => l[0]?) h
    have e1 := congrArg (fun l : List Nat => l[1]?) h
    simp [List.getElem?_drop] at e0 e1
    exact ⟨e0, e1⟩
  · rintro ⟨h1, h3⟩
    have l1 := (List.getElem?_eq_some_iff.mp h3).1
    refine ⟨by omega, ?_⟩
    have a : l.drop i = 13 :: 10 :: l.drop (i + 2) := by
      rw [List.drop_eq_getElem_cons (by omega), List.drop_eq_getElem_cons (by omega)]
      rw [(List.getElem?_eq_some_iff.mp h1).2, (List.getElem?_eq_some_iff.mp h3).2]
    rw [a]
    rfl
theorem rep2_skip (x : Str) : ∀ (k a : Nat), a + k ≤ x.length → (∀ i, a ≤ i → i < a + k → ¬ At x ⟨#[13, 10]⟩ x.length i) → rep2 (x.cps.toList.drop a) = (x.cps.toList.drop a).take k ++ rep2 (x.cps.toList.drop (a + k))
  | 0, a, _, _ => by simp
  | k + 1, a, hk, hb => by
    have hn : x.cps.toList.length = x.length := by simp [Str.length]
    have e : x.cps.toList.drop a = x.cps.toList[a]'(by omega) :: x.cps.toList.drop (a + 1) := List.drop_eq_getElem_cons (by omega)
    have hno := hb a (by omega) (by omega)
    rw [at2] at hno
    rw [e, rep2_cons, rep2_skip x k (a + 1) (by omega) (fun i i1 i2 => hb i (by omega) (by omega)), List.take_succ_cons, List.cons_append]
    · rw [show a + 1 + k = a + (k + 1) by omega]
    · rintro ⟨q, r', q2⟩
      refine hno ⟨by rw [List.getElem?_eq_getElem (by omega), q], ?_⟩
      have := congrArg (fun l : List Nat => l[0]?) q2
      simpa [List.getElem?_drop] using this
theorem rep2_end (x : Str) (a : Nat) (hb : ∀ i, a ≤ i → ¬ At x ⟨#[13, 10]⟩ x.length i) : rep2 (x.cps.toList.drop a) = x.cps.toList.drop a := by
  have hn : x.cps.toList.length = x.length := by simp [Str.length]
  by_cases h : a ≤ x.length
  · rw [rep2_skip x (x.length - a) a (by omega) (fun i i1 _ => hb i i1), List.drop_eq_nil_of_le (i := a + (x.length - a)) (by omega), List.take_of_length_le (by rw [List.length_drop]; omega)]
    simp [rep2]
  · rw [List.drop_eq_nil_of_le (by omega)]; rfl
theorem join_step (z p : Str) (l : List Str) (h : ∃ q r, l = q :: r) : (Str.join z (p :: l)).cps.toList = p.cps.toList ++ z.cps.toList ++ (Str.join z l).cps.toList := by
  obtain ⟨q, r, rfl⟩ := h
  show (p ++ z ++ Str.join z (q :: r)).cps.toList = _
  simp only [Str.cps_append, Array.toList_append]
theorem rep2_parts (x : Str) : ∀ (cuts : List Nat) (a f : Nat), ChainG x ⟨#[13, 10]⟩ x.length a cuts f → (∀ k, f ≤ k → ¬ At x ⟨#[13, 10]⟩ x.length k) → (Str.join ⟨#[10]⟩ (partsFrom x 2 a cuts)).cps.toList = rep2 (x.cps.toList.drop a)
  | [], a, f, h, hn => by
    have hl : x.cps.toList.length = x.length := by simp [Str.length]
    have e : f = a := h
    subst e
    rw [rep2_end x f hn]
    show (strSub x f x.length).cps.toList = _
    rw [strSub_toList, List.take_of_length_le (by rw [List.length_drop]; omega)]
  | c :: r, a, f, h, hn => by
    have hl : x.cps.toList.length = x.length := by simp [Str.length]
    have hat := h.2.1
    have hc := hat.1
    rw [at2] at hat
    have ih := rep2_parts x r (c + 2) f h.2.2.2 hn
    show (Str.join ⟨#[10]⟩ (strSub x a c :: partsFrom x 2 (c + 2) r)).cps.toList = _
    rw [join_step _ _ _ (partsFrom_ne x 2 (c + 2) r), ih, strSub_toList]
    have hc2 : c + 2 ≤ x.length := hc
    rw [rep2_skip x (c - a) a (by have := h.1; omega) (fun i i1 i2 => h.2.2.1 i i1 (by omega)), show a + (c - a) = c by have := h.1; omega]
    have e : x.cps.toList.drop c = 13 :: 10 :: x.cps.toList.drop (c + 2) := by
      rw [List.drop_eq_getElem_cons (by omega), List.drop_eq_getElem_cons (by omega)]
      rw [(List.getElem?_eq_some_iff.mp hat.1).2, (List.getElem?_eq_some_iff.mp hat.2).2]
    rw [e]
    simp [rep2]
theorem replace2 (x : Str) : (Txt.replace x ⟨#[13, 10]⟩ ⟨#[10]⟩).cps.toList = rep2 x.cps.toList := by
  obtain ⟨f, hG, hn⟩ := occ_tight x ⟨#[13, 10]⟩ (by decide)
  unfold Txt.replace
  have h10 : ((⟨#[13, 10]⟩ : Str).length == 0) = false := rfl
  rw [h10, Bool.false_and, Bool.or_false]
  split
  · rename_i he
    have e0 := List.isEmpty_iff.mp he
    rw [e0] at hG
    have ef : f = 0 := hG
    subst ef
    have := rep2_end x 0 (fun i _ => hn i (Nat.zero_le _))
    simpa using this.symm
  · rw [glued_eq_join, partsBetween_eq]
    have := rep2_parts x _ 0 f hG hn
    rw [List.drop_zero] at this
    exact this
theorem join_m13 : ∀ parts : List Str, (∀ p ∈ parts, 13 ∉ p.cps.toList) → (Str.join ⟨#[13]⟩ parts).cps.toList.map m13 = (Str.join ⟨#[10]⟩ parts).cps.toList
  | [], _ => rfl
  | [p], h => m13_free (fun c hc e => h p (.head _) (e ▸ hc))
  | p :: q :: r, h => by
    have ih := join_m13 (q :: r) fun a ha => h a (.tail _ ha)
    rw [join_step _ _ _ ⟨_, _, rfl⟩, join_step _ _ _ ⟨_, _, rfl⟩, List.map_append, List.map_append, ih, m13_free (fun c hc e => h p (.head _) (e ▸ hc))]
    rfl
theorem replace1 (x : Str) : (Txt.replace x ⟨#[13]⟩ ⟨#[10]⟩).cps.toList = x.cps.toList.map m13 := by
  rw [replace_one, ← join_m13 _ (split_free x 13), join_split]
theorem free_first {c : Nat} : ∀ {p q : List Nat} {r s : List Nat}, c ∉ p → c ∉ q → p ++ c :: r = q ++ c :: s → p = q ∧ r = s
  | [], [], r, s, _, _, e => ⟨rfl, by injection e⟩
  | [], b :: q, r, s, _, h2, e => by injection e with e1 e2; exact absurd (by rw [e1]; exact .head _) h2
  | a :: p, [], r, s, h1, _, e => by injection e with e1 e2; exact absurd (by rw [e1]; exact .head _) h1
  | a :: p, b :: q, r, s, h1, h2, e => by
    injection e with e1 e2
    obtain ⟨e3, e4⟩ := free_first (fun h => h1 (.tail _ h)) (fun h => h2 (.tail _ h)) e2
    exact ⟨by rw [e1, e3], e4⟩
theorem split_uniq : ∀ (ps : List Str) (ts : List (List Nat)), ps ≠ [] → (∀ p ∈ ps, 10 ∉ p.cps.toList) → (∀ t ∈ ts, 10 ∉ t) → (Str.join ⟨#[10]⟩ ps).cps.toList = (ts.map (fun t => t ++ [10])).flatten → ps.map (·.cps.toList) = ts ++ [[]]
  | [], _, h, _, _, _ => absurd rfl h
  | [p], [], _, _, _, e => by
    show [p.cps.toList] = [[]]
    have e : p.cps.toList = [] := e
    rw [e]
  | [p], t :: ts, _, hp, _, e => by
    exfalso
    refine hp p (.head _) ?_
    have e : p.cps.toList = _ := e
    rw [e]
    simp
  | p :: q :: r, [], _, _, _, e => by
    rw [join_step _ _ _ ⟨_, _, rfl⟩] at e
    exfalso
    have := congrArg List.length e
    simp at this
  | p :: q :: r, t :: ts, _, hp, ht, e => by
    rw [join_step _ _ _ ⟨_, _, rfl⟩, List.map_cons, List.flatten_cons, List.append_assoc, List.append_assoc] at e
    obtain ⟨e1, e2⟩ := free_first (hp p (.head _)) (ht t (.head _)) e
    rw [List.map_cons, e1, split_uniq (q :: r) ts (by simp) (fun a ha => hp a (.tail _ ha)) (fun a ha => ht a (.tail _ ha)) e2]
    rfl
theorem split_ne (x y : Str) : Txt.split x y ≠ [] := by
  unfold Txt.split
  split
  · simp
  · split
    · simp
    · rw [partsBetween_eq]
      obtain ⟨p, r, e⟩ := partsFrom_ne x y.length 0 (occurrences x y 0 x.length (x.length + 1))
      rw [e]; simp
theorem rows_cut {x : Str} {rows : List (List Nat × List Nat)} (hx : x.cps.toList = rowsG rows) (h : ∀ p ∈ rows, GoodRow p) :
    (Txt.split (Txt.replace (Txt.replace x (Str.ofString "\r\n") (Str.ofString "\n")) (Str.ofString "\r") (Str.ofString "\n")) (Str.ofString "\n")).map (·.cps.toList) = rows.map (·.1) ++ [[]] := by
  rw [show Str.ofString "\r\n" = ⟨#[13, 10]⟩ from by decide +kernel, show Str.ofString "\r" = ⟨#[13]⟩ from by decide +kernel, show Str.ofString "\n" = ⟨#[10]⟩ from by decide +kernel]
  refine split_uniq _ _ (split_ne _ _) (split_free _ _) ?_ ?_
  · intro t ht hm
    obtain ⟨p, hp, rfl⟩ := List.mem_map.mp ht
    exact ((h p hp).free 10 hm).1 rfl
  · rw [join_split, replace1, replace2, hx, m13_rows h]
    rw [rowsG, List.map_map, List.map_map]
    rfl
end Mine
end
section
open PySem PySem.W PySem.Calls PySem.Spec PyProof.Rows
set_option maxRecDepth 100000
set_option linter.unusedVariables false
namespace Mine
theorem offP0 : True ∨ (if True then True else True) := by (w_top off; first | (right; walk1; fail) | (left; trivial))
/-- a host or a rule's rest -/
inductive Hst : List Value → Prop
  | one {n : Str} {t : Tok} : IsName n → Hst [.str n t]
  | more {n : Str} {t : Tok} {d : Int} {u : Tok} {vs : List Value} : IsName n → 1 ≤ d ∧ d ≤ 3 → Hst vs → Hst (.str n t :: .int d u :: vs)
section
variable {hs rs vs : List Value} {a0 a1 a2 a3 n : Str} {d0 d1 d2 D : Int} {a b ask : Str}
theorem hst_rest (H : HostIs hs a0 a1 a2 a3 d0 d1 d2) (hR : RestOf hs rs) : Hst rs := by
  obtain ⟨t0, t1, t2, t3, u0, u1, u2, _, h⟩ := rest_cases H hR
  have n0 := H.n0
  have n1 := H.n1
  have n2 := H.n2
  have n3 := H.n3
  have b0 := H.b0
  have b1 := H.b1
  have b2 := H.b2
  rcases h with rfl | rfl | rfl | rfl | ⟨t, rfl | rfl | rfl | rfl⟩ | rfl | rfl | rfl
  · exact .more n0 b0 (.more n1 b1 (.more n2 b2 (.one n3)))
  · exact .more n1 b1 (.more n2 b2 (.one n3))
  · exact .more n2 b2 (.one n3)
  · exact .one n3
  · exact .more n0 b0 (.more n1 b1 (.more n2 b2 (.one co_name)))
  · exact .more n1 b1 (.more n2 b2 (.one co_name))
  · exact .more n2 b2 (.one co_name)
  · exact .one co_name
  · exact .more n0 b0 (.more n1 b1 (.one n2))
  · exact .more n1 b1 (.one n2)
  · exact .one n2
theorem rest_self (H : HostIs hs a0 a1 a2 a3 d0 d1 d2) : RestOf hs hs := ⟨0, by decide, .inl rfl⟩
theorem hst_host (H : HostIs hs a0 a1 a2 a3 d0 d1 d2) : Hst hs := hst_rest H (rest_self H)
theorem name_list (h : IsName n) : n.cps.toList = [97] ∨ n.cps.toList = [98] ∨ n.cps.toList = [99, 111] ∨ n.cps.toList = [99, 111, 109] ∨ n.cps.toList = [55] := by
  rcases h with rfl | rfl | rfl | rfl | rfl
  · exact .inl (by decide +kernel)
  · exact .inr (.inl (by decide +kernel))
  · exact .inr (.inr (.inl (by decide +kernel)))
  · exact .inr (.inr (.inr (.inl (by decide +kernel))))
  · exact .inr (.inr (.inr (.inr (by decide +kernel))))
def Sign (c : Nat) : Prop := c = 97 ∨ c = 98 ∨ c = 99 ∨ c = 111 ∨ c = 109 ∨ c = 55
theorem name_signs (h : IsName n) : n.cps.toList ≠ [] ∧ ∀ c ∈ n.cps.toList, Sign c := by
  rcases name_list h with e | e | e | e | e <;> rw [e] <;> simp [Sign]
theorem Sign.nd {c : Nat} (h : Sign c) : c ≠ 46 := by unfold Sign at h; omega
theorem spell_one {t : Tok} : spell [.str n t] = n.cps.toList := by simp [spell, vsp]
theorem spell_more {t u : Tok} {d : Int} : spell (.str n t :: .int d u :: vs) = n.cps.toList ++ (List.replicate d.toNat 46 ++ spell vs) := by simp [spell, vsp]
theorem spell_head (h : Hst vs) : ∃ c r, spell vs = c :: r ∧ Sign c := by
  have key : ∀ {n : Str} (r : List Nat), IsName n → ∃ c q, n.cps.toList ++ r = c :: q ∧ Sign c := by
    intro n r hn
    have := name_signs hn
    match hl : n.cps.toList, this.1 with
    | c :: q, _ => exact ⟨c, q ++ r, rfl, this.2 c (by rw [hl]; exact .head _)⟩
  cases h with
  | one hn => rw [spell_one]; have := key [] hn; rwa [List.append_nil] at this
  | more hn _ _ => rw [spell_more]; exact key _ hn
theorem spell_signs (h : Hst vs) : ∀ c ∈ spell vs, Sign c ∨ c = 46 := by
  induction h with
  | one hn => rw [spell_one]; exact fun c hc => .inl ((name_signs hn).2 c hc)
  | more hn hd _ ih =>
    rw [spell_more]
    intro c hc
    rcases List.mem_append.mp hc with q | q
    · exact .inl ((name_signs hn).2 c q)
    · rcases List.mem_append.mp q with q | q
      · exact .inr (List.eq_of_mem_replicate q)
      · exact ih c q
theorem row_signs (h : Hst vs) {k : Nat} : ∀ c ∈ List.replicate k 46 ++ spell vs, Sign c ∨ c = 46 := by
  intro c hc
  rcases List.mem_append.mp hc with q | q
  · exact .inr (List.eq_of_mem_replicate q)
  · exact spell_signs h c q
theorem sign_ok {c : Nat} (h : Sign c ∨ c = 46) : c ≠ 10 ∧ c ≠ 13 ∧ c < 128 ∧ ¬ (65 ≤ c ∧ c ≤ 90) ∧ c ≠ 0 := by
  rcases h with h | h
  · unfold Sign at h; omega
  · omega
theorem row_good (h : Hst vs) {k : Nat} {sep : List Nat} (hs : sep = [10] ∨ sep = [13] ∨ sep = [13, 10]) : GoodRow (List.replicate k 46 ++ spell vs, sep) := by
  refine ⟨?_, fun c hc => ?_, hs⟩
  · obtain ⟨c, r, e, _⟩ := spell_head h
    show List.replicate k 46 ++ spell vs ≠ []
    rw [e]; simp
  · have := sign_ok (row_signs h c hc)
    exact ⟨this.1, this.2.1⟩
-- digits
def NoDD : List Nat → Prop
  | a :: b :: r => (Sre.isDigit a = true → Sre.isDigit b = false) ∧ NoDD (b :: r)
  | _ => True
theorem NoDD.dots {r : List Nat} (h : NoDD r) : ∀ k, NoDD (List.replicate k 46 ++ r)
  | 0 => h
  | k + 1 => by
    have ih := NoDD.dots h k
    rw [List.replicate_succ, List.cons_append]
    match hq : List.replicate k 46 ++ r with
    | [] => trivial
    | x :: q => rw [hq] at ih; exact ⟨fun e => by simp [Sre.isDigit] at e, ih⟩
theorem NoDD.name {r : List Nat} (hn : IsName n) (h : NoDD r) (hr : r = [] ∨ ∃ q, r = 46 :: q) : NoDD (n.cps.toList ++ r) := by
  rcases hr with rfl | ⟨q, rfl⟩ <;> rcases name_list hn with e | e | e | e | e <;> rw [e] <;> simp [NoDD, Sre.isDigit] at h ⊢ <;> exact h
theorem spell_dd (h : Hst vs) : NoDD (spell vs) := by
  induction h with
  | one hn => rw [spell_one]; have := NoDD.name (r := []) hn trivial (.inl rfl); rwa [List.append_nil] at this
  | @more n t d u vs hn hd _ ih =>
    rw [spell_more]
    refine NoDD.name hn (ih.dots _) (.inr ?_)
    obtain ⟨k, hk⟩ : ∃ k, d.toNat = k + 1 := ⟨d.toNat - 1, by omega⟩
    rw [hk]
    exact ⟨_, rfl⟩
theorem dd_at : ∀ {l : List Nat}, NoDD l → ∀ i, Sre.isDigit (l.getD i 0) = true → Sre.isDigit (l.getD (i + 1) 0) = false
  | [], _, i, _ => by simp [Sre.isDigit]
  | [a], _, i, _ => by
    have : [a].getD (i + 1) 0 = 0 := by simp
    rw [this]; decide
  | a :: b :: r, h, 0, e => h.1 e
  | a :: b :: r, h, i + 1, e => by
    have ih := dd_at (l := b :: r) h.2 i
    exact ih e
theorem arr_getD (x : Array Nat) (i : Nat) : x.getD i 0 = x.toList.getD i 0 := by
  rw [Array.getD_eq_getD_getElem?, List.getD_eq_getElem?_getD]; simp
theorem nice_of {x : Str} {l : List Nat} (hx : x.cps.toList = l) (hl : l.length < 5000) (h10 : ∀ c ∈ l, c ≠ 10) (hd : NoDD l) : Nice x := by
  subst hx
  refine ⟨by simpa using hl, fun i => ?_, fun i h => ?_⟩
  · rw [arr_getD, List.getD_eq_getElem?_getD]
    cases q : x.cps.toList[i]? with
    | none => simp
    | some c => exact h10 c (List.mem_of_getElem? q)
  · rw [arr_getD] at h ⊢
    exact dd_at hd i h
theorem slice_one (b : Str) (h : 1 ≤ b.cps.toList.length) : (Txt.slice b (some 1) none).cps.toList = b.cps.toList.drop 1 := by
  have := StrLaws.sliceText_from (x := b) (i := 1) ⟨by decide, by omega⟩
  rw [show Txt.slice b (some 1) none = StrLaws.sliceText b (some 1) none from rfl, this]
  show ((b.cps.toList.drop 1).take _) = _
  exact List.take_of_length_le (by rw [List.length_drop]; omega)
theorem hst_len (h : Hst vs) : (spell vs).length ≤ 3 * vs.length := by
  induction h with
  | one hn => rw [spell_one]; have := hn.len; simp only [List.length_cons, List.length_nil]; show _ ≤ 3 * 1; have e : ∀ n : Str, n.cps.toList.length = n.length := fun n => by simp [Str.length]
              rw [e]; omega
  | more hn hd _ ih =>
    rw [spell_more]
    have := hn.len
    have e : ∀ n : Str, n.cps.toList.length = n.length := fun n => by simp [Str.length]
    simp only [List.length_append, List.length_replicate, List.length_cons, e]
    omega
theorem nice_host (H : HostIs hs a0 a1 a2 a3 d0 d1 d2) (ha : a.cps.toList = spell hs) : Nice a := by
  have h := hst_host H
  have := spell_len (alt_host H)
  exact nice_of ha (by omega) (fun c hc => (sign_ok (spell_signs h c hc)).1) (spell_dd h)
theorem nice_row (H : HostIs hs a0 a1 a2 a3 d0 d1 d2) (hR : RestOf hs rs) (hD : 0 ≤ D ∧ D ≤ 5) (hb : b.cps.toList = List.replicate D.toNat 46 ++ spell rs) : Nice b ∧ Nice (Txt.slice b (some 1) none) := by
  have h := hst_rest H hR
  have hl := spell_len (alt_rest H hR)
  have hd := (spell_dd h).dots D.toNat
  have h10 : ∀ c ∈ List.replicate D.toNat 46 ++ spell rs, c ≠ 10 := fun c hc => (sign_ok (row_signs h c hc)).1
  have hln : (List.replicate D.toNat 46 ++ spell rs).length < 5000 := by simp; omega
  obtain ⟨c, r, e, hc⟩ := spell_head h
  refine ⟨nice_of hb hln h10 hd, nice_of (l := (List.replicate D.toNat 46 ++ spell rs).drop 1) ?_ (by simp at hln ⊢; omega) (fun c hc => h10 c (List.mem_of_mem_drop hc)) ?_⟩
  · rw [← hb, slice_one b (by rw [hb, e]; simp only [List.length_append, List.length_replicate, List.length_cons]; omega)]
  · match hq : List.replicate D.toNat 46 ++ spell rs with
    | [] => trivial
    | [x] => trivial
    | x :: y :: q => rw [hq] at hd; exact hd.2
theorem lower_id {x : Str} (h : ∀ c ∈ x.cps.toList, Sign c ∨ c = 46) : Txt.lower x = x := by
  rw [lower_ascii (fun c hc => (sign_ok (h c hc)).2.2.1)]
  have : x.cps.map lo1 = x.cps := by
    apply Array.toList_inj.mp
    rw [Array.toList_map]
    refine (List.map_congr_left (fun c hc => ?_)).trans (List.map_id _)
    have := (sign_ok (h c hc)).2.2.2.1
    unfold lo1
    rw [if_neg this]; rfl
  rw [this]
theorem lower_row (H : HostIs hs a0 a1 a2 a3 d0 d1 d2) (hR : RestOf hs rs) (hb : b.cps.toList = List.replicate D.toNat 46 ++ spell rs) : Txt.lower b = b :=
  lower_id (by rw [hb]; exact row_signs (hst_rest H hR))
theorem upper_host (H : HostIs hs a0 a1 a2 a3 d0 d1 d2) (ha : a.cps.toList = spell hs) : (Txt.upper a).cps.toList = (spell hs).map up1 := by
  have h := hst_host H
  rw [upper_ascii (fun c hc => (sign_ok (spell_signs h c (ha ▸ hc))).2.2.1)]
  show (a.cps.map up1).toList = _
  rw [Array.toList_map, ha]
theorem lower_ask (H : HostIs hs a0 a1 a2 a3 d0 d1 d2) (ha : ask.cps.toList = (spell hs).map up1) : (Txt.lower ask).cps.toList = spell hs := by
  have h := hst_host H
  have hup : ∀ c, Sign c ∨ c = 46 → up1 c < 128 ∧ lo1 (up1 c) = c := by
    intro c hc
    unfold Sign at hc
    rcases hc with (rfl | rfl | rfl | rfl | rfl | rfl) | rfl <;> decide
  rw [lower_ascii (fun c hc => by
    rw [ha] at hc
    obtain ⟨k, hk, rfl⟩ := List.mem_map.mp hc
    exact (hup k (spell_signs h k hk)).1)]
  show (ask.cps.map lo1).toList = _
  rw [Array.toList_map, ha, List.map_map]
  exact (List.map_congr_left (fun c hc => (hup c (spell_signs h c hc)).2)).trans (List.map_id _)
theorem si_hst (h : Hst vs) : SI vs := by
  refine ⟨?_⟩
  have nm : ∀ {n : Str}, IsName n → PyData.strOk n = true := by
    intro n hn
    rcases hn with rfl | rfl | rfl | rfl | rfl <;> decide +kernel
  induction h with
  | one hn =>
    intro v hv
    rw [List.mem_singleton.mp hv]
    exact .inl ⟨_, _, rfl, nm hn⟩
  | more hn hd _ ih =>
    intro v hv
    rcases List.mem_cons.mp hv with rfl | hv
    · exact .inl ⟨_, _, rfl, nm hn⟩
    · rcases List.mem_cons.mp hv with rfl | hv
      · exact .inr ⟨_, _, rfl⟩
      · exact ih v hv
theorem rest_facts (H : HostIs hs a0 a1 a2 a3 d0 d1 d2) (hR : RestOf hs rs) : rs.length ≤ 7 ∧ rs.length % 2 = 1 ∧ SI rs ∧ SI hs ∧ hs.length = 7 ∧ (∃ t, hs.getLast? = some (.str a3 t)) ∧ (∃ rl t, rs.getLast? = some (.str rl t)) ∧ (∀ j, j < 7 → j % 2 = 0 → ∃ n t, hs[j]? = some (.str n t)) ∧
   ∃ da ua, (0 < (hs.length : Int) - rs.length - 1 → hs[((hs.length : Int) - rs.length - 1).toNat]? = some (.int da ua)) := by
  have h1 := si_hst (hst_rest H hR)
  have h2 := si_hst (hst_host H)
  obtain ⟨t0, t1, t2, t3, u0, u1, u2, e, h⟩ := rest_cases H hR
  have hev : ∀ j, j < 7 → j % 2 = 0 → ∃ n t, hs[j]? = some (.str n t) := by
    intro j hj hj2
    have : j = 0 ∨ j = 2 ∨ j = 4 ∨ j = 6 := by omega
    rw [e]
    rcases this with rfl | rfl | rfl | rfl <;> exact ⟨_, _, rfl⟩
  have hl : hs.length = 7 := by rw [e]; rfl
  have hg : ∃ t, hs.getLast? = some (.str a3 t) := ⟨t3, by rw [e]; rfl⟩
  have fin : ∀ (k : Nat), rs.length = k → k = 1 ∨ k = 3 ∨ k = 5 ∨ k = 7 → (∃ rl t, rs.getLast? = some (.str rl t)) → rs.length ≤ 7 ∧ rs.length % 2 = 1 ∧ SI rs ∧ SI hs ∧ hs.length = 7 ∧ (∃ t, hs.getLast? = some (.str a3 t)) ∧ (∃ rl t, rs.getLast? = some (.str rl t)) ∧ (∀ j, j < 7 → j % 2 = 0 → ∃ n t, hs[j]? = some (.str n t)) ∧
   ∃ da ua, (0 < (hs.length : Int) - rs.length - 1 → hs[((hs.length : Int) - rs.length - 1).toNat]? = some (.int da ua)) := by
    intro k hk hk2 hr
    refine ⟨by omega, by omega, h1, h2, hl, hg, hr, hev, ?_⟩
    rw [hk, e]
    rcases hk2 with rfl | rfl | rfl | rfl
    · exact ⟨d2, u2, fun _ => rfl⟩
    · exact ⟨d1, u1, fun _ => rfl⟩
    · exact ⟨d0, u0, fun _ => rfl⟩
    · exact ⟨0, 0, fun q => by simp at q⟩
  rcases h with rfl | rfl | rfl | rfl | ⟨t, rfl | rfl | rfl | rfl⟩ | rfl | rfl | rfl <;> exact fin _ rfl (by simp) ⟨_, _, rfl⟩
end
end Mine
end
section
open PySem PySem.W PySem.Calls PySem.Spec PyProof.Rows
set_option maxRecDepth 100000
set_option linter.unusedVariables false
namespace Mine
theorem offP2 : True ∨ (if True then True else True) := by (w_top off; first | (right; walk1; fail) | (left; trivial))
abbrev nm (n : Str) : List Nat := n.cps.toList
theorem nm_inj {x y : Str} (h : nm x = nm y) : x = y := by
  cases x with | mk a =>
  cases y with | mk b =>
  have : a = b := Array.toList_inj.mp h
  rw [this]
/-- a text that opens with a sign -/
def Head (l : List Nat) : Prop := ∃ c r, l = c :: r ∧ Sign c
theorem Head.app {l : List Nat} (h : Head l) (t : List Nat) : Head (l ++ t) := by
  obtain ⟨c, r, rfl, hc⟩ := h
  exact ⟨c, r ++ t, rfl, hc⟩
theorem dots_cut {R S : List Nat} (hR : Head R) (hS : Head S) : ∀ {p q : Nat}, List.replicate p 46 ++ R = List.replicate q 46 ++ S → p = q ∧ R = S
  | 0, 0, e => ⟨rfl, e⟩
  | 0, q + 1, e => by
    obtain ⟨c, r, rfl, hc⟩ := hR
    rw [List.replicate_succ] at e
    exact absurd (by injection e) hc.nd
  | p + 1, 0, e => by
    obtain ⟨c, r, rfl, hc⟩ := hS
    rw [List.replicate_succ] at e
    exact absurd (by injection e with e1; exact e1.symm) hc.nd
  | p + 1, q + 1, e => by
    rw [List.replicate_succ, List.replicate_succ] at e
    obtain ⟨e1, e2⟩ := dots_cut hR hS (by injection e)
    exact ⟨by rw [e1], e2⟩
theorem name_nodot {n : Str} (h : IsName n) : 46 ∉ nm n := fun q => ((name_signs h).2 46 q).nd rfl
theorem name_head {n : Str} (h : IsName n) : Head (nm n) := by
  have := name_signs h
  show Head n.cps.toList
  match hl : n.cps.toList, this.1 with
  | c :: r, _ => exact ⟨c, r, rfl, this.2 c (by rw [hl]; exact .head _)⟩
theorem tok_cut {m n : Str} {p q : Nat} {R S : List Nat} (hm : IsName m) (hn : IsName n) (hp : 1 ≤ p) (hq : 1 ≤ q) (hR : Head R) (hS : Head S)
    (e : nm m ++ (List.replicate p 46 ++ R) = nm n ++ (List.replicate q 46 ++ S)) : m = n ∧ p = q ∧ R = S := by
  obtain ⟨p, rfl⟩ : ∃ k, p = k + 1 := ⟨p - 1, by omega⟩
  obtain ⟨q, rfl⟩ : ∃ k, q = k + 1 := ⟨q - 1, by omega⟩
  obtain ⟨e1, e2⟩ := free_first (name_nodot hm) (name_nodot hn) e
  obtain ⟨e3, e4⟩ := dots_cut hR hS e2
  exact ⟨nm_inj e1, by rw [e3], e4⟩
section
variable {hs rs vs : List Value} {a0 a1 a2 a3 n : Str} {d0 d1 d2 D : Int} {a b ask : Str}
theorem hst_head (h : Hst vs) : Head (spell vs) := spell_head h
theorem spell_eq (hr : Hst rs) : ∀ {vs : List Value}, Hst vs → (spell rs = spell vs ↔ rs.map dtv = vs.map dtv) := by
  induction hr with
  | @one m t hm =>
    intro vs hv
    cases hv with
    | @one n t' hn =>
      rw [spell_one, spell_one]
      constructor
      · intro e; rw [nm_inj e]; rfl
      · intro e; injection e with e; injection e with e; rw [e]
    | @more n t' d u vs hn hd hv =>
      rw [spell_one, spell_more]
      constructor
      · intro e
        exfalso
        refine name_nodot hm ?_
        rw [show nm m = _ from e]
        obtain ⟨k, hk⟩ : ∃ k, d.toNat = k + 1 := ⟨d.toNat - 1, by omega⟩
        rw [hk]; simp
      · intro e
        have := congrArg List.length e
        simp at this
  | @more m t e u rs hm he hr ih =>
    intro vs hv
    cases hv with
    | @one n t' hn =>
      rw [spell_one, spell_more]
      constructor
      · intro q
        exfalso
        refine name_nodot hn ?_
        rw [show nm n = _ from q.symm]
        obtain ⟨k, hk⟩ : ∃ k, e.toNat = k + 1 := ⟨e.toNat - 1, by omega⟩
        rw [hk]; simp
      · intro q
        have := congrArg List.length q
        simp at this
    | @more n t' d u' vs hn hd hv =>
      rw [spell_more, spell_more]
      constructor
      · intro q
        obtain ⟨q1, q2, q3⟩ := tok_cut hm hn (by omega) (by omega) (hst_head hr) (hst_head hv) q
        have q4 : e = d := by omega
        rw [q1, q4, List.map_cons, List.map_cons, List.map_cons, List.map_cons, (ih hv).mp q3]
        rfl
      · intro q
        rw [List.map_cons, List.map_cons, List.map_cons, List.map_cons] at q
        injection q with q1 q
        injection q with q2 q
        injection q1 with q1
        injection q2 with q2
        rw [q1, q2, (ih hv).mpr q]
/-- the texts of rs stand at the head of those of vs, the last one maybe longer -/
def preM : List Value → List Value → Prop
  | .str m _ :: .int e _ :: rs, .str n _ :: .int d _ :: vs => m = n ∧ e = d ∧ preM rs vs
  | [.str m _], .str n _ :: _ => nm m <+: nm n
  | _, _ => False
theorem pre_name {m n : Str} {X : List Nat} (hm : IsName m) (hX : X = [] ∨ ∃ q, X = 46 :: q) : nm m <+: nm n ++ X ↔ nm m <+: nm n := by
  constructor
  · intro h
    rcases List.prefix_or_prefix_of_prefix h (List.prefix_append (nm n) X) with q | q
    · exact q
    · obtain ⟨t, ht⟩ := q
      obtain ⟨k, hk⟩ := h
      rw [← ht, List.append_assoc] at hk
      have hk := List.append_cancel_left hk
      match t, ht, hk with
      | [], ht, _ => rw [← ht, List.append_nil]; exact List.prefix_refl _
      | c :: t, ht, hk =>
        exfalso
        rcases hX with rfl | ⟨q, rfl⟩
        · cases hk
        · have hc : c = 46 := by injection hk
          refine name_nodot hm ?_
          rw [← ht, hc]; simp
  · intro h
    exact h.trans (List.prefix_append _ _)
theorem pre_iff (hr : Hst rs) : ∀ {vs : List Value}, Hst vs → (spell rs <+: spell vs ↔ preM rs vs) := by
  induction hr with
  | @one m t hm =>
    intro vs hv
    cases hv with
    | @one n t' hn => rw [spell_one, spell_one]; exact Iff.rfl
    | @more n t' d u vs hn hd hv =>
      rw [spell_one, spell_more, pre_name hm (.inr ?_)]
      · exact Iff.rfl
      · obtain ⟨k, hk⟩ : ∃ k, d.toNat = k + 1 := ⟨d.toNat - 1, by omega⟩
        rw [hk]; exact ⟨_, rfl⟩
  | @more m t e u rs hm he hr ih =>
    intro vs hv
    cases hv with
    | @one n t' hn =>
      rw [spell_one, spell_more]
      constructor
      · rintro ⟨k, q⟩
        refine absurd ?_ (name_nodot hn)
        rw [show nm n = _ from q.symm]
        obtain ⟨k, hk⟩ : ∃ k, e.toNat = k + 1 := ⟨e.toNat - 1, by omega⟩
        rw [hk]; simp
      · intro q; exact q.elim
    | @more n t' d u' vs hn hd hv =>
      rw [spell_more, spell_more]
      constructor
      · rintro ⟨k, q⟩
        rw [List.append_assoc, List.append_assoc] at q
        obtain ⟨q1, q2, q3⟩ := tok_cut hm hn (by omega) (by omega) ((hst_head hr).app k) (hst_head hv) q
        exact ⟨q1, by omega, (ih hv).mp ⟨k, q3⟩⟩
      · rintro ⟨q1, q2, q3⟩
        obtain ⟨k, q⟩ := (ih hv).mpr q3
        exact ⟨k, by rw [List.append_assoc, List.append_assoc, q1, q2, q]⟩
theorem cut_end {n : Str} {p d : Nat} {R S t : List Nat} (hn : IsName n) (hp : 1 ≤ p) (hR : Head R) (hS : Head S)
    (e : t ++ (List.replicate p 46 ++ R) = nm n ++ (List.replicate d 46 ++ S)) : (R = S ∧ p ≤ d) ∨ ∃ c, S = c ++ (List.replicate p 46 ++ R) := by
  rw [← List.append_assoc (nm n)] at e
  rcases List.append_eq_append_iff.mp e with ⟨a', h1, h2⟩ | ⟨c', h1, h2⟩
  · left
    have fin : ∀ k, k ≤ d → a' = List.replicate k 46 → R = S ∧ p ≤ d := by
      intro k hk ha
      rw [ha] at h2
      obtain ⟨q1, q2⟩ := dots_cut hR hS h2
      exact ⟨q2, by omega⟩
    rcases List.append_eq_append_iff.mp h1 with ⟨b, g1, g2⟩ | ⟨b, g1, g2⟩
    · have hb : a' = List.replicate a'.length 46 := List.eq_replicate_of_mem (fun x hx => List.eq_of_mem_replicate (n := d) (by rw [g2]; exact List.mem_append_right _ hx))
      have hl : a'.length ≤ d := by
        have := congrArg List.length g2
        simp at this
        omega
      exact fin _ hl hb
    · match b, g1, g2 with
      | [], _, g2 => exact fin d (Nat.le_refl _) (by simpa using g2)
      | x :: b, g1, g2 =>
        exfalso
        obtain ⟨k, rfl⟩ : ∃ k, p = k + 1 := ⟨p - 1, by omega⟩
        rw [g2] at h2
        have hx : 46 = x := by injection h2
        refine name_nodot hn ?_
        rw [g1, ← hx]; simp
  · exact .inr ⟨c', h2⟩
def sufM (D : Int) (rs : List Value) : List Value → Prop
  | .str _ _ :: .int d _ :: vs => (vs.map dtv = rs.map dtv ∧ D ≤ d) ∨ sufM D rs vs
  | _ => False
theorem suf_iff (hr : Hst rs) (hD : 1 ≤ D) (hv : Hst vs) : (List.replicate D.toNat 46 ++ spell rs) <:+ spell vs ↔ sufM D rs vs := by
  induction hv with
  | @one n t hn =>
    rw [spell_one]
    constructor
    · rintro ⟨k, q⟩
      refine absurd ?_ (name_nodot hn)
      rw [show nm n = _ from q.symm]
      obtain ⟨k, hk⟩ : ∃ k, D.toNat = k + 1 := ⟨D.toNat - 1, by omega⟩
      rw [hk]; simp
    · intro q; exact q.elim
  | @more n t d u vs hn hd hv ih =>
    rw [spell_more]
    constructor
    · rintro ⟨k, q⟩
      rcases cut_end hn (by omega) (hst_head hr) (hst_head hv) q with ⟨q1, q2⟩ | ⟨c, q1⟩
      · exact .inl ⟨((spell_eq hr hv).mp q1).symm, by omega⟩
      · exact .inr (ih.mp ⟨c, q1.symm⟩)
    · rintro (⟨q1, q2⟩ | q)
      · refine ⟨nm n ++ List.replicate (d.toNat - D.toNat) 46, ?_⟩
        rw [(spell_eq hv hr).mpr q1, List.append_assoc, ← List.append_assoc (List.replicate _ _), List.replicate_append_replicate, show d.toNat - D.toNat + D.toNat = d.toNat by omega]
      · obtain ⟨c, q⟩ := ih.mpr q
        exact ⟨nm n ++ (List.replicate d.toNat 46 ++ c), by rw [List.append_assoc, List.append_assoc, q]⟩
def infM (rs : List Value) : List Value → Prop
  | .str _ _ :: .int _ _ :: vs => preM rs vs ∨ infM rs vs
  | _ => False
theorem inf_iff (hr : Hst rs) (hv : Hst vs) : (46 :: spell rs) <:+: spell vs ↔ infM rs vs := by
  induction hv with
  | @one n t hn =>
    rw [spell_one]
    constructor
    · rintro ⟨s, t, q⟩
      refine absurd ?_ (name_nodot hn)
      rw [show nm n = _ from q.symm]; simp
    · intro q; exact q.elim
  | @more n t d u vs hn hd hv ih =>
    rw [spell_more]
    constructor
    · rintro ⟨s, t, q⟩
      have q' : s ++ (List.replicate 1 46 ++ (spell rs ++ t)) = nm n ++ (List.replicate d.toNat 46 ++ spell vs) := by
        rw [← q]; simp
      rcases cut_end hn (by omega) ((hst_head hr).app t) (hst_head hv) q' with ⟨q1, q2⟩ | ⟨c, q1⟩
      · exact .inl ((pre_iff hr hv).mp ⟨t, q1⟩)
      · exact .inr (ih.mp ⟨c, t, by rw [q1]; simp⟩)
    · rintro (q | q)
      · obtain ⟨t, q⟩ := (pre_iff hr hv).mpr q
        obtain ⟨k, hk⟩ : ∃ k, d.toNat = k + 1 := ⟨d.toNat - 1, by omega⟩
        refine ⟨nm n ++ List.replicate k 46, t, ?_⟩
        rw [hk, ← q, ← List.replicate_append_replicate (n := k) (m := 1)]
        simp
      · obtain ⟨s, t, q⟩ := ih.mpr q
        refine ⟨nm n ++ (List.replicate d.toNat 46 ++ s), t, ?_⟩
        rw [← q]; simp
end
end Mine
end
section
open PySem PySem.W PySem.Calls PySem.Spec PyProof.Rows
set_option maxRecDepth 100000
set_option linter.unusedVariables false
namespace Mine
theorem offP3 : True ∨ (if True then True else True) := by (w_top off; first | (right; walk1; fail) | (left; trivial))
section
variable {hs rs vs : List Value} {a0 a1 a2 a3 n rl : Str} {d0 d1 d2 D : Int} {a b ask x y : Str}
theorem len_list (x : Str) : x.length = x.cps.toList.length := by simp [Str.length]
theorem dot_list : (Str.ofString ".").cps.toList = [46] := by decide +kernel
-- a prefix, a suffix, an occurrence
theorem starts_iff : Txt.startswith x y = true ↔ nm y <+: nm x := by
  unfold Txt.startswith
  rw [StrLaws.subAt_eq, Bool.and_eq_true, decide_eq_true_eq, List.drop_zero, beq_iff_eq, len_list, len_list]
  constructor
  · rintro ⟨_, h⟩
    show y.cps.toList <+: x.cps.toList
    rw [← h]; exact List.take_prefix _ _
  · intro h
    refine ⟨by have := h.length_le; show 0 + (nm y).length ≤ (nm x).length; omega, ?_⟩
    exact (List.prefix_iff_eq_take.mp h).symm
theorem ends_iff : Txt.endswith x y = true ↔ nm y <:+ nm x := by
  unfold Txt.endswith
  rw [StrLaws.subAt_eq, Bool.and_eq_true, decide_eq_true_eq, beq_iff_eq, len_list, len_list]
  constructor
  · rintro ⟨h1, h⟩
    rw [List.take_of_length_le (by rw [List.length_drop]; omega)] at h
    show y.cps.toList <:+ x.cps.toList
    rw [← h]; exact List.drop_suffix _ _
  · intro h
    have hl := h.length_le
    refine ⟨by show 0 + (nm y).length ≤ (nm x).length; omega, ?_⟩
    rw [List.take_of_length_le (by rw [List.length_drop]; omega)]
    exact (List.suffix_iff_eq_drop.mp h).symm
theorem at_iff (i : Nat) : StrLaws.At x y x.length i ↔ ∃ s t, s.length = i ∧ s ++ nm y ++ t = nm x := by
  unfold StrLaws.At
  rw [StrLaws.subAt_eq, beq_iff_eq, len_list, len_list]
  constructor
  · rintro ⟨h1, h⟩
    refine ⟨(nm x).take i, (nm x).drop (i + (nm y).length), by rw [List.length_take]; show min i x.cps.toList.length = i; omega, ?_⟩
    show x.cps.toList.take i ++ y.cps.toList ++ x.cps.toList.drop (i + y.cps.toList.length) = x.cps.toList
    rw [← List.drop_drop]
    generalize hL : y.cps.toList.length = k at *
    rw [← h, List.append_assoc, List.take_append_drop, List.take_append_drop]
  · rintro ⟨s, t, hs, e⟩
    have hl := congrArg List.length e
    simp only [List.length_append] at hl
    refine ⟨by show i + (nm y).length ≤ (nm x).length; omega, ?_⟩
    show List.take (nm y).length ((nm x).drop i) = nm y
    rw [← e, ← hs, List.append_assoc, List.drop_left, List.take_left]
theorem rfind_some (h : Txt.rfind x y ≠ -1) : ∃ s t, Txt.rfind x y = (s.length : Nat) ∧ s ++ nm y ++ t = nm x := by
  unfold Txt.rfind at h ⊢
  rcases StrLaws.last_spec x y with ⟨h0, _⟩ | ⟨i, h0, h1, _⟩
  · rw [h0] at h; exact absurd rfl h
  · rw [h0]
    obtain ⟨s, t, e1, e2⟩ := (at_iff i).mp h1
    exact ⟨s, t, by rw [e1], e2⟩
theorem rfind_none (h : Txt.rfind x y = -1) : ¬ nm y <:+: nm x := by
  unfold Txt.rfind at h
  rcases StrLaws.last_spec x y with ⟨_, h1⟩ | ⟨i, h0, _, _⟩
  · rintro ⟨s, t, e⟩
    exact h1 s.length ((at_iff _).mpr ⟨s, t, rfl, e⟩)
  · rw [h0] at h
    have h : ((i : Nat) : Int) = -1 := h
    omega
-- the ends of a text
theorem ip_iff : ip x.cps = true ↔ ∃ r c, nm x = r ++ [46, c] ∧ Sre.isDigit c = true := by
  unfold ip
  simp only [Bool.and_eq_true, decide_eq_true_eq, beq_iff_eq]
  have hz : x.cps.size = (nm x).length := by simp
  rw [arr_getD, arr_getD, hz]
  show ((2 ≤ (nm x).length ∧ (nm x).getD ((nm x).length - 2) 0 = 46) ∧ Sre.isDigit ((nm x).getD ((nm x).length - 1) 0) = true) ↔ _
  generalize nm x = l
  constructor
  · rintro ⟨⟨h1, h2⟩, h3⟩
    refine ⟨l.take (l.length - 2), l.getD (l.length - 1) 0, ?_, h3⟩
    have e1 : l.drop (l.length - 2) = [46, l.getD (l.length - 1) 0] := by
      rw [List.drop_eq_getElem_cons (by omega), List.drop_eq_getElem_cons (by omega), List.drop_eq_nil_of_le (by omega)]
      rw [List.getD_eq_getElem?_getD, List.getElem?_eq_getElem (by omega)] at h2
      rw [List.getD_eq_getElem?_getD, List.getElem?_eq_getElem (by omega)]
      simp only [Option.getD_some] at h2 ⊢
      rw [h2]
      congr 2
      congr 1
      omega
    rw [← e1, List.take_append_drop]
  · rintro ⟨r, c, rfl, hc⟩
    have hl : (r ++ [46, c]).length = r.length + 2 := by simp
    rw [hl]
    refine ⟨⟨by omega, ?_⟩, ?_⟩
    · rw [show r.length + 2 - 2 = r.length by omega, List.getD_eq_getElem?_getD]; simp
    · rw [show r.length + 2 - 1 = r.length + 1 by omega, List.getD_eq_getElem?_getD]; simpa using hc
theorem ip_name {Q : List Nat} (hn : IsName n) (hx : nm x = Q ++ nm n) : ip x.cps = true ↔ n = Str.ofString "7" ∧ ∃ q, Q = q ++ [46] := by
  rw [ip_iff, hx]
  have h7 : nm (Str.ofString "7") = [55] := by decide +kernel
  constructor
  · rintro ⟨r, c, e, hc⟩
    have hlast := congrArg List.getLast? e
    rw [show r ++ [46, c] = (r ++ [46]) ++ [c] by simp, List.getLast?_concat] at hlast
    rcases name_list hn with q | q | q | q | q
    · rw [show nm n = _ from q] at hlast; simp at hlast; subst hlast; simp [Sre.isDigit] at hc
    · rw [show nm n = _ from q] at hlast; simp at hlast; subst hlast; simp [Sre.isDigit] at hc
    · rw [show nm n = _ from q, show Q ++ [99, 111] = (Q ++ [99]) ++ [111] by simp, List.getLast?_concat] at hlast; simp at hlast; subst hlast; simp [Sre.isDigit] at hc
    · rw [show nm n = _ from q, show Q ++ [99, 111, 109] = (Q ++ [99, 111]) ++ [109] by simp, List.getLast?_concat] at hlast; simp at hlast; subst hlast; simp [Sre.isDigit] at hc
    · refine ⟨nm_inj (q.trans h7.symm), r, ?_⟩
      rw [show nm n = _ from q, show r ++ [46, c] = (r ++ [46]) ++ [c] by simp] at e
      exact (List.append_inj' e rfl).1
  · rintro ⟨rfl, q, rfl⟩
    exact ⟨q, 55, by rw [h7]; simp, by decide⟩
theorem item_first {c : Nat} {r : List Nat} (hx : nm x = c :: r) : (Txt.item x 0 == Str.ofString ".") = (c == 46) := by
  have hl : x.length = r.length + 1 := by rw [len_list, show x.cps.toList = _ from hx]; rfl
  have h0 : x.cps[0]? = some c := by
    have : (nm x)[0]? = some c := by rw [hx]; rfl
    simpa using this
  have e : Txt.item x 0 = ⟨#[c]⟩ := by
    unfold Txt.item Txt.charAt seqIndex?
    rw [hl]
    simp [h0]
  rw [e, show Str.ofString "." = ⟨#[46]⟩ from by decide +kernel]
  by_cases q : c = 46
  · subst q; simp
  · have h1 : (c == 46) = false := by simpa using q
    rw [h1, beq_eq_false_iff_ne]
    intro h
    injection h with h
    have := congrArg Array.toList h
    simp at this
    exact q this
theorem item_last {c : Nat} {r : List Nat} (hx : nm x = r ++ [c]) : (Txt.item x (-1) == Str.ofString ".") = (c == 46) := by
  have hl : x.length = r.length + 1 := by rw [len_list, show x.cps.toList = _ from hx]; simp
  have h0 : x.cps[r.length]? = some c := by
    have : (nm x)[r.length]? = some c := by rw [hx]; simp
    simpa using this
  have e : Txt.item x (-1) = ⟨#[c]⟩ := by
    unfold Txt.item Txt.charAt seqIndex?
    rw [hl]
    have e1 : (-1 : Int) + ((r.length + 1 : Nat) : Int) = (r.length : Int) := by omega
    have e0 : (if (-1 : Int) < 0 then (-1 : Int) + ((r.length + 1 : Nat) : Int) else -1) = (r.length : Int) := by rw [if_pos (by decide), e1]
    simp only [e0]
    have e2 : (decide (0 ≤ (r.length : Int)) && decide ((r.length : Int) < ((r.length + 1 : Nat) : Int))) = true := by
      simp only [Bool.and_eq_true, decide_eq_true_eq]; omega
    rw [if_pos e2]
    simp [h0]
  rw [e, show Str.ofString "." = ⟨#[46]⟩ from by decide +kernel]
  by_cases q : c = 46
  · subst q; simp
  · have h1 : (c == 46) = false := by simpa using q
    rw [h1, beq_eq_false_iff_ne]
    intro h
    injection h with h
    have := congrArg Array.toList h
    simp at this
    exact q this
/-- the last name of a host and what stands ahead of it -/
theorem spell_last (h : Hst vs) : ∀ {t : Tok}, vs.getLast? = some (.str rl t) → IsName rl ∧ ∃ P, spell vs = P ++ nm rl ∧ ((vs.length = 1 ∧ P = []) ∨ (1 < vs.length ∧ ∃ q, P = q ++ [46])) := by
  induction h with
  | @one n t hn =>
    intro t' e
    have e : rl = n := by simp at e; exact e.1.symm
    subst e
    exact ⟨hn, [], by rw [spell_one]; rfl, .inl ⟨rfl, rfl⟩⟩
  | @more n t d u vs hn hd hv ih =>
    intro t' e
    obtain ⟨v, vs', rfl⟩ : ∃ v vs', vs = v :: vs' := by
      cases hv with
      | one => exact ⟨_, _, rfl⟩
      | more => exact ⟨_, _, rfl⟩
    obtain ⟨h1, P, h2, h3⟩ := ih (t := t') (by simpa using e)
    refine ⟨h1, nm n ++ (List.replicate d.toNat 46 ++ P), by rw [spell_more, h2]; simp, .inr ⟨by simp, ?_⟩⟩
    rcases h3 with ⟨_, rfl⟩ | ⟨_, q, rfl⟩
    · obtain ⟨k, hk⟩ : ∃ k, d.toNat = k + 1 := ⟨d.toNat - 1, by omega⟩
      refine ⟨nm n ++ List.replicate k 46, ?_⟩
      rw [hk, List.replicate_succ', List.append_nil]
      simp
    · exact ⟨nm n ++ (List.replicate d.toNat 46 ++ q), by simp⟩
theorem hdn_host (h : Hst vs) {t : Tok} (hl : vs.getLast? = some (.str rl t)) (hx : nm x = spell vs) : hdn x = (!ip x.cps) := by
  obtain ⟨c, r, e, hc⟩ := spell_head h
  obtain ⟨hrl, P, e2, _⟩ := spell_last h hl
  have hne : (x == Str.ofString "") = false := by
    rw [beq_eq_false_iff_ne]
    intro q
    have : nm x = [] := by rw [q]; decide +kernel
    rw [hx, e] at this
    cases this
  have hf : (Txt.item x 0 == Str.ofString ".") = false := by
    rw [item_first (hx.trans e)]
    simpa using hc.nd
  have hg : (Txt.item x (-1) == Str.ofString ".") = false := by
    have hs := name_signs hrl
    obtain ⟨l, z, hz⟩ : ∃ l z, nm rl = l ++ [z] := ⟨(nm rl).dropLast, (nm rl).getLast hs.1, (List.dropLast_concat_getLast hs.1).symm⟩
    rw [item_last (r := P ++ l) (c := z) (by rw [hx, e2, hz]; simp)]
    have : Sign z := hs.2 z (by rw [show rl.cps.toList = _ from hz]; simp)
    simpa using this.nd
  unfold hdn
  rw [hne, hf, hg]
  simp
theorem hdn_dot {r : List Nat} (hx : nm x = 46 :: r) : hdn x = false := by
  unfold hdn
  rw [item_first hx]
  simp
theorem beq_str : (a == b) = true ↔ nm a = nm b := by
  rw [beq_iff_eq]
  exact ⟨fun e => by rw [e], nm_inj⟩
end
end Mine
end
section
open PySem PySem.W PySem.Calls PySem.Spec PyProof.Rows
set_option maxRecDepth 100000
set_option linter.unusedVariables false
namespace Mine
theorem offP4 : True ∨ (if True then True else True) := by (w_top off; first | (right; walk1; fail) | (left; trivial))
section
variable {hs rs vs : List Value} {a0 a1 a2 a3 n rl : Str} {d0 d1 d2 D : Int} {a b ask x y : Str}
theorem host_last (H : HostIs hs a0 a1 a2 a3 d0 d1 d2) : ∃ t, hs.getLast? = some (.str a3 t) := by
  obtain ⟨_, _, _, t3, _, _, _, rfl⟩ := H.ex
  exact ⟨t3, rfl⟩
theorem hst_lastof (h : Hst vs) : ∃ rl t, vs.getLast? = some (.str rl t) := by
  induction h with
  | one hn => exact ⟨_, _, rfl⟩
  | @more n t d u vs hn hd hv ih =>
    obtain ⟨rl, t', e⟩ := ih
    refine ⟨rl, t', ?_⟩
    cases hv with
    | one => simpa using e
    | more => simpa using e
theorem ip_host (H : HostIs hs a0 a1 a2 a3 d0 d1 d2) (ha : a.cps.toList = spell hs) : ip a.cps = true ↔ a3 = Str.ofString "7" := by
  obtain ⟨t, ht⟩ := host_last H
  obtain ⟨hn, P, e, h⟩ := spell_last (hst_host H) ht
  rw [ip_name (Q := P) hn (ha.trans e)]
  constructor
  · exact fun h => h.1
  · intro h7
    rcases h with ⟨hl, _⟩ | ⟨_, h⟩
    · rw [H.len] at hl; cases hl
    · exact ⟨h7, h⟩
theorem ip_row (hr : Hst rs) (hD : 1 ≤ D) {t : Tok} (hl : rs.getLast? = some (.str rl t)) (hb : b.cps.toList = List.replicate D.toNat 46 ++ spell rs) : ip b.cps = true ↔ rl = Str.ofString "7" := by
  obtain ⟨hn, P, e, h⟩ := spell_last hr hl
  rw [ip_name (Q := List.replicate D.toNat 46 ++ P) hn (by rw [show nm b = _ from hb, e, List.append_assoc])]
  constructor
  · exact fun h => h.1
  · intro h7
    refine ⟨h7, ?_⟩
    rcases h with ⟨_, rfl⟩ | ⟨_, q, rfl⟩
    · obtain ⟨k, hk⟩ : ∃ k, D.toNat = k + 1 := ⟨D.toNat - 1, by omega⟩
      exact ⟨List.replicate k 46, by rw [hk, List.replicate_succ', List.append_nil]⟩
    · exact ⟨List.replicate D.toNat 46 ++ q, by simp⟩
theorem ip_bare (hr : Hst rs) {t : Tok} (hl : rs.getLast? = some (.str rl t)) (hb : nm x = spell rs) : ip x.cps = true ↔ rl = Str.ofString "7" ∧ 1 < (rs.length : Int) := by
  obtain ⟨hn, P, e, h⟩ := spell_last hr hl
  rw [ip_name (Q := P) hn (hb.trans e)]
  constructor
  · rintro ⟨h7, q, rfl⟩
    refine ⟨h7, ?_⟩
    rcases h with ⟨_, h⟩ | ⟨h, _⟩
    · simp at h
    · omega
  · rintro ⟨h7, h1⟩
    refine ⟨h7, ?_⟩
    rcases h with ⟨h, _⟩ | ⟨_, h⟩
    · omega
    · exact h
theorem row_dot (hD : 1 ≤ D) (hb : b.cps.toList = List.replicate D.toNat 46 ++ spell rs) : ∃ r, nm b = 46 :: r := by
  obtain ⟨k, hk⟩ : ∃ k, D.toNat = k + 1 := ⟨D.toNat - 1, by omega⟩
  rw [hk] at hb
  exact ⟨_, hb⟩
theorem starts_dot {r : List Nat} {c : Nat} (hb : nm b = c :: r) : Txt.startswith b (Str.ofString ".") = (c == 46) := by
  have h := starts_iff (x := b) (y := Str.ofString ".")
  rw [show nm (Str.ofString ".") = [46] from dot_list, hb] at h
  by_cases q : c = 46
  · subst q
    have : Txt.startswith b (Str.ofString ".") = true := h.mpr ⟨r, rfl⟩
    rw [this]; rfl
  · have : Txt.startswith b (Str.ofString ".") = false := by
      rw [Bool.eq_false_iff]
      intro e
      obtain ⟨t, e⟩ := h.mp e
      exact q (by injection e with e1; exact e1.symm)
    rw [this]; simpa using q
theorem ne_len {xs ys : List Value} (h : xs.length ≠ ys.length) : ¬ xs.map dtv = ys.map dtv := fun e => h (by simpa using congrArg List.length e)
theorem suf_host (H : HostIs hs a0 a1 a2 a3 d0 d1 d2) (hR : RestOf hs rs) {da : Int} {ua : Tok} (hda : 0 < (hs.length : Int) - rs.length - 1 → hs[((hs.length : Int) - rs.length - 1).toNat]? = some (.int da ua)) :
    sufM D rs hs ↔ 0 < (hs.length : Int) - rs.length - 1 ∧ (slicePick hs.toArray (some ((hs.length : Int) - rs.length - 1 + 1)) none none).toList.map dtv = rs.map dtv ∧ D ≤ da := by
  obtain ⟨h7, hodd, _⟩ := rest_facts H hR
  obtain ⟨t0, t1, t2, t3, u0, u1, u2, rfl⟩ := H.ex
  have hk : rs.length = 1 ∨ rs.length = 3 ∨ rs.length = 5 ∨ rs.length = 7 := by omega
  have sp : ∀ (k : Nat) (z : Int), z = (k : Int) → (slicePick [Value.str a0 t0, .int d0 u0, .str a1 t1, .int d1 u1, .str a2 t2, .int d2 u2, .str a3 t3].toArray (some z) none none).toList = [Value.str a0 t0, .int d0 u0, .str a1 t1, .int d1 u1, .str a2 t2, .int d2 u2, .str a3 t3].drop k := by
    intro k z hz
    rw [hz, slicePick_from']
  simp only [List.length_cons, List.length_nil] at hda ⊢
  have un : sufM D rs [Value.str a0 t0, .int d0 u0, .str a1 t1, .int d1 u1, .str a2 t2, .int d2 u2, .str a3 t3] ↔
      ([Value.str a1 t1, .int d1 u1, .str a2 t2, .int d2 u2, .str a3 t3].map dtv = rs.map dtv ∧ D ≤ d0) ∨ ([Value.str a2 t2, .int d2 u2, .str a3 t3].map dtv = rs.map dtv ∧ D ≤ d1) ∨ ([Value.str a3 t3].map dtv = rs.map dtv ∧ D ≤ d2) ∨ False := Iff.rfl
  rw [un]
  rcases hk with hk | hk | hk | hk <;> rw [hk] at hda ⊢
  · have e := hda (by decide)
    have e : d2 = da := by
      have e : some (Value.int d2 u2) = some (Value.int da ua) := e
      injection e with e; injection e
    rw [sp 6 _ (by decide), ← e]
    constructor
    · rintro (⟨q, _⟩ | ⟨q, _⟩ | ⟨q, h⟩ | q)
      · exact absurd q (ne_len (by rw [hk]; simp))
      · exact absurd q (ne_len (by rw [hk]; simp))
      · exact ⟨by decide, q, h⟩
      · exact q.elim
    · rintro ⟨_, q, h⟩
      exact .inr (.inr (.inl ⟨q, h⟩))
  · have e := hda (by decide)
    have e : d1 = da := by
      have e : some (Value.int d1 u1) = some (Value.int da ua) := e
      injection e with e; injection e
    rw [sp 4 _ (by decide), ← e]
    constructor
    · rintro (⟨q, _⟩ | ⟨q, h⟩ | ⟨q, _⟩ | q)
      · exact absurd q (ne_len (by rw [hk]; simp))
      · exact ⟨by decide, q, h⟩
      · exact absurd q (ne_len (by rw [hk]; simp))
      · exact q.elim
    · rintro ⟨_, q, h⟩
      exact .inr (.inl ⟨q, h⟩)
  · have e := hda (by decide)
    have e : d0 = da := by
      have e : some (Value.int d0 u0) = some (Value.int da ua) := e
      injection e with e; injection e
    rw [sp 2 _ (by decide), ← e]
    constructor
    · rintro (⟨q, h⟩ | ⟨q, _⟩ | ⟨q, _⟩ | q)
      · exact ⟨by decide, q, h⟩
      · exact absurd q (ne_len (by rw [hk]; simp))
      · exact absurd q (ne_len (by rw [hk]; simp))
      · exact q.elim
    · rintro ⟨_, q, h⟩
      exact .inl ⟨q, h⟩
  · constructor
    · rintro (⟨q, h⟩ | ⟨q, _⟩ | ⟨q, _⟩ | q)
      · exact absurd q (ne_len (by rw [hk]; simp))
      · exact absurd q (ne_len (by rw [hk]; simp))
      · exact absurd q (ne_len (by rw [hk]; simp))
      · exact q.elim
    · rintro ⟨q, _⟩
      exact absurd q (by decide)
theorem last_of_map {xs ys : List Value} (h : xs.map dtv = ys.map dtv) {p q : Str} {t u : Tok} (hx : xs.getLast? = some (.str p t)) (hy : ys.getLast? = some (.str q u)) : p = q := by
  have e := congrArg List.getLast? h
  rw [List.getLast?_map, List.getLast?_map, hx, hy] at e
  simpa [dtv] using e
theorem user_law (H : HostIs hs a0 a1 a2 a3 d0 d1 d2) (hR : RestOf hs rs) (hD : 0 ≤ D ∧ D ≤ 5) (ha : a.cps.toList = spell hs) (hb : b.cps.toList = List.replicate D.toNat 46 ++ spell rs)
  {da : Int} {ua : Tok} (hda : 0 < (hs.length : Int) - rs.length - 1 → hs[((hs.length : Int) - rs.length - 1).toNat]? = some (.int da ua)) : userM a b = true ↔ userU hs a3 da D rs := by
  have hh := hst_host H
  have hr := hst_rest H hR
  unfold userM userU
  by_cases h0 : D = 0
  · rw [if_pos h0]
    subst h0
    have hb : nm b = spell rs := hb
    obtain ⟨c, r, e, hc⟩ := spell_head hr
    have hsd : Txt.startswith b (Str.ofString ".") = false := by
      rw [starts_dot (hb.trans e)]; simpa using hc.nd
    rw [hsd]
    simp only [Bool.false_eq_true, if_false, ite_self]
    rw [beq_str, show nm a = spell hs from ha, hb, spell_eq hh hr]
    exact ⟨Eq.symm, Eq.symm⟩
  · rw [if_neg h0]
    have hD1 : 1 ≤ D := by omega
    obtain ⟨r, e⟩ := row_dot hD1 hb
    have hsd : Txt.startswith b (Str.ofString ".") = true := by rw [starts_dot e]; rfl
    obtain ⟨rl, tr, hrl⟩ := hst_lastof hr
    have i1 := ip_host H ha
    have i2 := ip_row hr hD1 hrl hb
    have hne : ¬ (a == b) = true := by
      rw [beq_str, show nm a = spell hs from ha, e]
      obtain ⟨c, q, e2, hc⟩ := spell_head hh
      rw [e2]
      intro h
      exact hc.nd (by injection h)
    have hsuf : Txt.endswith a b = true ↔ sufM D rs hs := by
      rw [ends_iff, show nm a = spell hs from ha, show nm b = _ from hb]
      exact suf_iff hr hD1 hh
    rw [hsd, if_pos rfl]
    rw [suf_host H hR hda] at hsuf
    constructor
    · intro h
      split at h
      · rename_i hip
        rw [Bool.and_eq_true, Bool.not_eq_true', Bool.not_eq_true'] at hip
        refine ⟨fun q => ?_, hsuf.mp h⟩
        rw [i1.mpr q] at hip
        cases hip.1
      · exact absurd h hne
    · rintro ⟨h7, h⟩
      have he := hsuf.mpr h
      have n1 : ip a.cps = false := by rw [Bool.eq_false_iff]; exact fun q => h7 (i1.mp q)
      have n2 : ip b.cps = false := by
        rw [Bool.eq_false_iff]
        intro q
        have hrl7 := i2.mp q
        obtain ⟨h1, h2, h3⟩ := h
        obtain ⟨t, ht⟩ := host_last H
        obtain ⟨h7', hodd, _⟩ := rest_facts H hR
        have hl := H.len
        have e3 : (slicePick hs.toArray (some ((hs.length : Int) - rs.length - 1 + 1)) none none).toList = hs.drop (7 - rs.length) := by
          rw [show (hs.length : Int) - rs.length - 1 + 1 = ((7 - rs.length : Nat) : Int) by omega, slicePick_from']
        rw [e3] at h2
        have hlast : (hs.drop (7 - rs.length)).getLast? = some (.str a3 t) := by
          rw [List.getLast?_drop, if_neg (by omega), ht]
        exact h7 ((last_of_map h2 hlast hrl).trans hrl7)
      rw [n1, n2]
      exact he
theorem pre_flat (hr : Hst rs) {t : Tok} (hl : rs.getLast? = some (.str rl t)) : ∀ {vs : List Value}, Hst vs → (preM rs vs ↔ rs.length ≤ vs.length ∧ (vs.take (rs.length - 1)).map dtv = (rs.take (rs.length - 1)).map dtv ∧ nm rl <+: nm (nameAt vs (rs.length - 1))) := by
  induction hr with
  | @one m t' hm =>
    intro vs hv
    have e : rl = m := by simp at hl; exact hl.1.symm
    subst e
    cases hv with
    | @one n t2 hn =>
      show nm rl <+: nm n ↔ _
      exact ⟨fun h => ⟨Nat.le_refl _, rfl, h⟩, fun h => h.2.2⟩
    | @more n t2 d u vs hn hd hv =>
      show nm rl <+: nm n ↔ _
      exact ⟨fun h => ⟨by simp, rfl, h⟩, fun h => h.2.2⟩
  | @more m t' e u rs hm he hr ih =>
    intro vs hv
    obtain ⟨k, hk⟩ : ∃ k, rs.length = k + 1 := by
      cases hr with
      | one => exact ⟨_, rfl⟩
      | more => exact ⟨_, rfl⟩
    have hl' : rs.getLast? = some (.str rl t) := by
      match rs, hk with
      | v :: rs', _ => simpa using hl
    cases hv with
    | @one n t2 hn =>
      constructor
      · intro h; exact h.elim
      · rintro ⟨h, _⟩; simp at h
    | @more n t2 d u' vs hn hd hv =>
      have ih := ih hl' hv
      show (m = n ∧ e = d ∧ preM rs vs) ↔ _
      rw [ih, hk]
      simp only [List.length_cons, hk]
      have e1 : k + 1 + 1 + 1 - 1 = k + 2 := by omega
      have e2 : k + 1 - 1 = k := by omega
      rw [e1, e2]
      constructor
      · rintro ⟨rfl, rfl, h1, h2, h3⟩
        refine ⟨by omega, ?_, h3⟩
        show dtv _ :: dtv _ :: (vs.take k).map dtv = dtv _ :: dtv _ :: (rs.take k).map dtv
        rw [h2]; rfl
      · rintro ⟨h1, h2, h3⟩
        have h2 : dtv (.str n t2) :: dtv (.int d u') :: (vs.take k).map dtv = dtv (.str m t') :: dtv (.int e u) :: (rs.take k).map dtv := h2
        injection h2 with q1 h2
        injection h2 with q2 h2
        injection q1 with q1
        injection q2 with q2
        exact ⟨q1.symm, q2.symm, by omega, h2, h3⟩
theorem dom_flat (H : HostIs hs a0 a1 a2 a3 d0 d1 d2) (hR : RestOf hs rs) {t : Tok} (hl : rs.getLast? = some (.str rl t)) (i : Nat) (hi : i < 3) {vs : List Value} (hv : Hst vs) (e : vs = hs.drop (2 + 2 * i)) :
    preM rs vs ↔ 2 + 2 * i + rs.length ≤ 7 ∧ domP hs rl rs i := by
  have hr := hst_rest H hR
  rw [pre_flat hr hl hv]
  obtain ⟨h7, hodd, _⟩ := rest_facts H hR
  have hlen := H.len
  have hvl : vs.length = 7 - (2 + 2 * i) := by rw [e, List.length_drop, hlen]
  have hn : nameAt vs (rs.length - 1) = nameAt hs (2 + 2 * i + rs.length - 1) := by
    unfold nameAt
    rw [e, List.getElem?_drop, show 2 + 2 * i + (rs.length - 1) = 2 + 2 * i + rs.length - 1 by omega]
  unfold domP
  rw [starts_iff, hn]
  have p2 : (slicePick rs.toArray none (some (-1)) none).toList = rs.take (rs.length - 1) := by
    rw [show (-1 : Int) = -((1 : Nat) : Int) from rfl, slicePick_butLast _ 1 (by decide)]
    simp
  rw [p2]
  have key : 2 + 2 * i + rs.length ≤ 7 → (slicePick hs.toArray (some (2 + (i : Int) * 2)) (some (2 + (i : Int) * 2 + rs.length - 1)) none).toList = vs.take (rs.length - 1) := by
    intro hle
    rw [show (2 : Int) + (i : Int) * 2 = ((2 + 2 * i : Nat) : Int) by omega, show ((2 + 2 * i : Nat) : Int) + rs.length - 1 = ((2 + 2 * i + rs.length - 1 : Nat) : Int) by omega,
      slicePick_run _ _ _ (by simp; omega) (by omega), e]
    rw [show 2 + 2 * i + rs.length - 1 - (2 + 2 * i) = rs.length - 1 by omega]
  constructor
  · rintro ⟨h1, h2, h3⟩
    have hle : 2 + 2 * i + rs.length ≤ 7 := by omega
    exact ⟨hle, by rw [key hle]; exact h2, h3⟩
  · rintro ⟨hle, h2, h3⟩
    rw [key hle] at h2
    exact ⟨by omega, h2, h3⟩
theorem inf_host (H : HostIs hs a0 a1 a2 a3 d0 d1 d2) (hR : RestOf hs rs) {t : Tok} (hl : rs.getLast? = some (.str rl t)) : infM rs hs ↔ ∃ i : Nat, 2 + 2 * i + rs.length ≤ 7 ∧ domP hs rl rs i := by
  have H' := H
  obtain ⟨t0, t1, t2, t3, u0, u1, u2, e⟩ := H.ex
  have un : infM rs hs ↔ preM rs [Value.str a1 t1, .int d1 u1, .str a2 t2, .int d2 u2, .str a3 t3] ∨ preM rs [Value.str a2 t2, .int d2 u2, .str a3 t3] ∨ preM rs [Value.str a3 t3] ∨ False := by rw [e]; exact Iff.rfl
  rw [un]
  have g2 : Hst [Value.str a3 t3] := .one H.n3
  have g1 : Hst [Value.str a2 t2, .int d2 u2, .str a3 t3] := .more H.n2 H.b2 g2
  have g0 : Hst [Value.str a1 t1, .int d1 u1, .str a2 t2, .int d2 u2, .str a3 t3] := .more H.n1 H.b1 g1
  have f0 := dom_flat H hR hl 0 (by decide) g0 (by rw [e]; rfl)
  have f1 := dom_flat H hR hl 1 (by decide) g1 (by rw [e]; rfl)
  have f2 := dom_flat H hR hl 2 (by decide) g2 (by rw [e]; rfl)
  rw [f0, f1, f2]
  obtain ⟨h7, hodd, _⟩ := rest_facts H hR
  constructor
  · rintro (h | h | h | h)
    · exact ⟨0, h⟩
    · exact ⟨1, h⟩
    · exact ⟨2, h⟩
    · exact h.elim
  · rintro ⟨i, h⟩
    have : i = 0 ∨ i = 1 ∨ i = 2 := by have := h.1; omega
    rcases this with rfl | rfl | rfl
    · exact .inl h
    · exact .inr (.inl h)
    · exact .inr (.inr (.inl h))
theorem dom_law (H : HostIs hs a0 a1 a2 a3 d0 d1 d2) (hR : RestOf hs rs) (hD : 0 ≤ D ∧ D ≤ 5) (ha : a.cps.toList = spell hs) (hb : b.cps.toList = List.replicate D.toNat 46 ++ spell rs)
  {rl : Str} {tr : Tok} (hrl : rs.getLast? = some (.str rl tr)) : domM a b = true ↔ domU hs a3 rl D rs := by
  have hh := hst_host H
  have hr := hst_rest H hR
  unfold domM domU
  by_cases h0 : D = 0
  · rw [if_pos h0]
    subst h0
    have hb : nm b = spell rs := hb
    obtain ⟨c, r, e, hc⟩ := spell_head hr
    have hsd : Txt.startswith b (Str.ofString ".") = false := by
      rw [starts_dot (hb.trans e)]; simpa using hc.nd
    rw [hsd]
    simp only [Bool.false_eq_true, if_false, ite_self]
    rw [show (if (a == b) = true then true else false) = (a == b) by cases (a == b) <;> rfl]
    rw [beq_str, show nm a = spell hs from ha, hb, spell_eq hh hr]
    exact ⟨Eq.symm, Eq.symm⟩
  · rw [if_neg h0]
    have hD1 : 1 ≤ D := by omega
    obtain ⟨r, e⟩ := row_dot hD1 hb
    have hsd : Txt.startswith b (Str.ofString ".") = true := by rw [starts_dot e]; rfl
    obtain ⟨th, hth⟩ := host_last H
    have i1 := ip_host H ha
    have hda := hdn_host hh hth ha
    obtain ⟨c, q, e2, hc⟩ := spell_head hh
    have hne : ¬ (a == b) = true := by
      rw [beq_str, show nm a = spell hs from ha, e, e2]
      intro h
      exact hc.nd (by injection h)
    rw [if_neg hne, hsd, if_pos rfl, hda]
    have hs1 : nm (Txt.slice b (some 1) none) = r := by
      have := slice_one b (by rw [show b.cps.toList = _ from e]; simp)
      rw [show b.cps.toList = _ from e] at this
      exact this
    have hb2 : 46 :: r = List.replicate D.toNat 46 ++ spell rs := e.symm.trans hb
    -- the rest behind the first dot
    have hhd : hdn (Txt.slice b (some 1) none) = true ↔ D ≤ 1 ∧ ¬ (rl = Str.ofString "7" ∧ 1 < (rs.length : Int)) := by
      by_cases hD2 : D = 1
      · subst hD2
        have hr1 : r = spell rs := by injection hb2
        have hx := hs1.trans hr1
        rw [hdn_host hr hrl hx, Bool.not_eq_true', Bool.eq_false_iff]
        constructor
        · exact fun h => ⟨Int.le_refl _, fun q => h ((ip_bare hr hrl hx).mpr q)⟩
        · exact fun h q => h.2 ((ip_bare hr hrl hx).mp q)
      · obtain ⟨k, hk⟩ : ∃ k, D.toNat = k + 2 := ⟨D.toNat - 2, by omega⟩
        have hr1 : r = 46 :: (List.replicate k 46 ++ spell rs) := by
          rw [hk] at hb2
          injection hb2
        rw [hdn_dot (hs1.trans hr1)]
        constructor
        · intro h; cases h
        · intro h; omega
    have hrf : Txt.rfind a b ≠ 0 := by
      intro h
      obtain ⟨s, t, h1, h2⟩ := rfind_some (x := a) (y := b) (by rw [h]; decide)
      rw [h] at h1
      have hs0 : s = [] := by
        cases s with
        | nil => rfl
        | cons x s => simp at h1; omega
      rw [hs0, e, show nm a = spell hs from ha, e2] at h2
      exact hc.nd (by injection h2 with h2; exact h2.symm)
    rw [if_neg hrf]
    have hinf : D = 1 → (Txt.rfind a b ≠ -1 ↔ ∃ i : Nat, 2 + 2 * i + rs.length ≤ 7 ∧ domP hs rl rs i) := by
      intro hD2
      subst hD2
      rw [← inf_host H hR hrl, ← inf_iff hr hh, ← show nm a = spell hs from ha, show 46 :: spell rs = nm b from hb.symm]
      constructor
      · intro h
        obtain ⟨s, t, _, h2⟩ := rfind_some h
        exact ⟨s, t, h2⟩
      · exact fun h q => rfind_none q h
    constructor
    · intro h
      split at h
      · rename_i hip
        split at h
        · cases h
        · rename_i hf
          obtain ⟨h1, h2⟩ := hhd.mp h
          rw [Bool.not_eq_true', Bool.eq_false_iff] at hip
          exact ⟨h1, fun q => hip (i1.mpr q), h2, (hinf (by omega)).mp hf⟩
      · cases h
    · rintro ⟨h1, h2, h3, h4⟩
      have hip : (!ip a.cps) = true := by
        rw [Bool.not_eq_true', Bool.eq_false_iff]
        exact fun q => h2 (i1.mp q)
      rw [if_pos hip, if_neg ((hinf (by omega)).mpr h4)]
      exact hhd.mpr ⟨h1, h3⟩
end
end Mine
end
section
open PySem PySem.W PySem.Calls PySem.Spec PyProof.Rows
set_option maxRecDepth 100000
set_option linter.unusedVariables false
set_option maxHeartbeats 400000
namespace Mine
theorem offD10 : True ∨ (if True then True else True) := by (w_top off; first | (right; walk1; fail) | (left; trivial))
local macro_rules | `(tactic| walk_at "call ref") => `(tactic| (refine stop_here ?_))
local macro_rules | `(tactic| walk_at "exec If") => `(tactic| (refine wpAny_If ?_))
local macro_rules | `(tactic| walk_at "execs nil") => `(tactic| (refine stop_here ?_))
local macro_rules | `(tactic| walk_at "execs cons") => `(tactic| (refine stop_here ?_))
local macro_rules | `(tactic| walk_at "pyIter ref") => `(tactic| (refine stop_here ?_))
local macro_rules | `(tactic| walk_at "call builtin:str.replace") => `(tactic| (refine stop_here ?_))
local macro_rules | `(tactic| walk_at "subscriptTail Name Name ref int") => `(tactic| (refine stop_here ?_))
local macro_rules | `(tactic| walk_at "subscriptTail Name Constant ref int") => `(tactic| (refine stop_here ?_))
local macro_rules | `(tactic| walk_at "UnrEnd") => `(tactic| (refine stop_here ?_))
local macro_rules | `(tactic| walk_at "call builtin:str.split") => `(tactic| (refine stop_here ?_))
theorem rep2_len : ∀ (n : Nat) (l : List Nat), l.length ≤ n → (rep2 l).length ≤ l.length
  | _, [], _ => Nat.le_refl _
  | 0, c :: r, h => by simp at h
  | n + 1, c :: r, h => by
    simp only [List.length_cons] at h
    by_cases q : c = 13 ∧ ∃ r', r = 10 :: r'
    · obtain ⟨rfl, r', rfl⟩ := q
      have := rep2_len n r' (by simp only [List.length_cons] at h; omega)
      simp only [rep2, List.length_cons]; omega
    · rw [rep2_cons q]
      have := rep2_len n r (by omega)
      simp only [List.length_cons]; omega
theorem len_rep2 (x : Str) : (Txt.replace x (Str.ofString "\r\n") (Str.ofString "\n")).length ≤ x.length := by
  rw [show Str.ofString "\r\n" = ⟨#[13, 10]⟩ from by decide +kernel, show Str.ofString "\n" = ⟨#[10]⟩ from by decide +kernel]
  have := rep2_len _ x.cps.toList (Nat.le_refl _)
  rw [← replace2] at this
  simpa [Str.length] using this
theorem len_rep1 (x : Str) : (Txt.replace x (Str.ofString "\r") (Str.ofString "\n")).length = x.length := by
  rw [show Str.ofString "\r" = ⟨#[13]⟩ from by decide +kernel, show Str.ofString "\n" = ⟨#[10]⟩ from by decide +kernel]
  have := congrArg List.length (replace1 x)
  simpa [Str.length] using this
section
variable {prog : Program} {w : World} {A : Around} {E : Value → Shared → Prop} {s : Shared} {x y z : Str} {t u v : Tok} {Q : Value → Shared → Prop}
theorem rep_pos (h0 : 0 < s.toks) (hu : 0 < u) (hv : 0 < v) (huv : u ≠ v) (hyz : (y == z) = false) (hx : x.length ≤ 1048576) (hz : z.length ≤ 14)
    (hq : ∀ t' k, 0 < k → Q (.str (Txt.replace x y z) t') { s with toks := k }) : wpAny (model prog w) A (call (.builtin "str.replace") [.str x t, .str y u, .str z v]) Q E s :=
  carry h0 (SC.replaceW (Nat.ne_of_gt hu) (Nat.ne_of_gt hv) huv hyz hx hz (fun t' k hp => hq t' k hp))
end
section
variable {w : World} {s : Shared} {Q : Flow → Shared → Prop} {h₀ h : Heap} {tk : Nat} {L fa sc I hA ruA dA : Addr} {cd : Value} {m mg mb : Str → Option Value} {mean : ExcName → Option Value} {it ho co : Obj}
  {t tm ta : Tok} {hs : List Value} {i : Int} {ws : List RR} {us : List (Addr × Tok)} {more : List (Addr × Obj)} {mail ask : Str} {a0 a1 a2 a3 : Str} {d0 d1 d2 : Int}
theorem turn3c (X : (Mine.hd.heap_39 w.params).In h₀) (T : Top Mine.hd.view_39 lse mean mg mb h₀) (H : HostIs hs a0 a1 a2 a3 d0 d1 d2)
    (F : Fr h₀ L h m) (htk : 0 < tk) (hm1 : m (Str.ofString "mail") = some (.str mail tm)) (hm2 : m (Str.ofString "due") = some (.ref dA)) (hm3 : m (Str.ofString "host") = some (.ref hA)) (hm4 : m (Str.ofString "asking") = some (.str ask ta)) (hi : 0 ≤ i ∧ i ≤ 3) 
    (N : News h₀ L h ((dA, LCg.lst (us.map (fun u => Value.ref u.1))) :: (L + 1, co) :: more)) (hok : ∀ r ∈ ws, r.Ok hs more) (h4 : ws.length = 4) (hu4 : us.length = 4) (hho : (hA, W.listOf hs.toArray 0) ∈ more)
    (hus : ∀ (k : Nat) (u : Addr × Tok) (r : RR), us[k]? = some u → ws[k]? = some r → (u.1, tupO (dueD i r.d) u.2 r.rA) ∈ more)
    (hml : mail.length < 1000) (rows : List (List Nat × List Nat)) (hrow : mail.cps.toList = rowsG rows) (hgood : ∀ p ∈ rows, GoodRow p) (hro : rows.map (·.1) = ws.map (fun r => List.replicate (dueD i r.d).toNat 46 ++ spell r.rs))
    (hask : ask.cps.toList = (spell hs).map up1)
    (K : ∀ (h' : Heap) (t' : Nat) (m' : Str → Option Value), Fr h₀ L h' m' → (∀ z, z ≠ Str.ofString "rows" → z ≠ Str.ofString "k" → m' z = m z) → 
      News h₀ L h' ((dA, LCg.lst (us.map (fun u => Value.ref u.1))) :: (L + 1, co) :: more) → Q .next { s with heap := h', toks := t' }) :
    wpAny (model prg w) (callerA.deeper (envOfC (Str.ofString "law") lawScope L fa cd)) (execs ((forBody 10).drop 2) (envOfC (Str.ofString "law") lawScope L fa cd)) Q (fun _ _ => False) { s with heap := h, toks := tk } := by
  rw [m_set hm1, m_set hm2, m_set hm3, m_set hm4] at F
  have hS := (rfl : lawScope = lawScope)
  conv at hS => rhs; whnf
  have hB := (rfl : (forBody 10).drop 2 = (forBody 10).drop 2)
  conv at hB => rhs; whnf
  rw [hS, hB]
  clear hS hB
  refine wpAny_execs_cons ?_
  k_steps
  unfold Stop
  refine rep_pos (Nat.succ_pos _) htk (Nat.succ_pos _) (Nat.ne_of_lt (Nat.lt_succ_self _)) (by decide) (by omega) (by decide) ?_
  intro t₁ k₁ p₁
  k_steps
  unfold Stop
  have l₁ := len_rep2 mail
  refine rep_pos (Nat.succ_pos _) p₁ (Nat.succ_pos _) (Nat.ne_of_lt (Nat.lt_succ_self _)) (by decide) (by omega) (by decide) ?_
  intro t₂ k₂ p₂
  k_steps
  unfold Stop
  have l₂ := len_rep1 (Txt.replace mail (Str.ofString "\r\n") (Str.ofString "\n"))
  have hsz : sizeLine = 16777216 := by decide
  refine splitN1 F N (by decide) ?_ (by omega)
  intro l h₁ k₃ hl F₁ N₁
  have hcut := rows_cut hrow hgood
  rw [← hl] at hcut
  k_steps
  unfold Stop
  refine wpAny_execs_cons ?_
  refine For_invV h₀ (by rfl) (by rfl) ?_
  k_steps
  unfold Stop
  (rename News _ _ _ _ => N₂)
  (rename Fr _ _ _ _ => F₂)
  (try dsimp only at N₂ F₂)
  (try dsimp only)
  have hll : l.length = 5 := by
    have e1 := congrArg List.length hcut
    have e2 := congrArg List.length hro
    simp at e1 e2
    omega
  have hlk : ∀ (k : Nat) (r : RR), ws[k]? = some r → ∃ y ty, (strValues l)[k]? = some (.str y ty) ∧ y.cps.toList = List.replicate (dueD i r.d).toNat 46 ++ spell r.rs := by
    intro k r hr
    have hk4 : k < ws.length := (List.getElem?_eq_some_iff.mp hr).1
    have hp : l[k]? = some (l[k]'(by omega)) := List.getElem?_eq_getElem (by omega)
    refine ⟨(l[k]'(by omega)).1, (l[k]'(by omega)).2, by unfold strValues; rw [List.getElem?_map, hp]; rfl, ?_⟩
    have e := congrArg (fun q => q[k]?) hcut
    rw [hro] at e
    simp only [List.map_map, List.getElem?_map, hp, Option.map_some] at e
    rw [List.getElem?_append_left (by simpa using hk4), List.getElem?_map, hr] at e
    exact Option.some.inj e
  generalize h.objs.size = rA at *
  have hI : ∀ {hh : Heap}, News h₀ L hh ((rA, W.listOf (strValues l).toArray 0) :: (dA, LCg.lst (us.map (fun u => Value.ref u.1))) :: (L + 1, co) :: more) → hh.IsList rA (strValues l).toArray ∧ hh.IsList dA (us.map (fun u => Value.ref u.1)).toArray := 
    fun N => ⟨listOf_is N (.head _), ⟨_, N.get (.tail _ (.head _)), rfl, _, rfl⟩⟩
  have N₃ : News h₀ L _ ((rA, W.listOf (strValues l).toArray 0) :: (dA, LCg.lst (us.map (fun u => Value.ref u.1))) :: (L + 1, co) :: more) := N₂
  refine iter_rangeJ (n := 4) (fun j m' news => news = ((rA, W.listOf (strValues l).toArray 0) :: (dA, LCg.lst (us.map (fun u => Value.ref u.1))) :: (L + 1, co) :: more) ∧ m' (Str.ofString "rows") = some (.ref rA) ∧ ∀ z, z ≠ Str.ofString "rows" → z ≠ Str.ofString "k" → m' z = m z) (by rfl) (by assumption) (by decide) (by decide) F₂ N₃ ⟨rfl, rfl, ?sinit⟩ ?sturn ?sdone
  case sinit =>
    intro z hz1 hz2
    show (if z = Str.ofString "rows" then _ else if z = Str.ofString "mail" then some (Value.str mail tm) else if z = Str.ofString "due" then some (Value.ref dA) else if z = Str.ofString "host" then some (Value.ref hA) else if z = Str.ofString "asking" then some (Value.str ask ta) else m z) = m z
    rw [if_neg hz1]
    split
    · rename_i q; rw [q, hm1]
    split
    · rename_i q; rw [q, hm2]
    split
    · rename_i q; rw [q, hm3]
    split
    · rename_i q; rw [q, hm4]
    rfl
  case sturn =>
    rintro I j t h₅ tk₅ m₅ news₅ hj ⟨rfl, hr5, hz5⟩ hoff F₅ N₅
    clear N₃ N₂ F₂
    have em : ∀ {z v}, m z = some v → z ≠ Str.ofString "rows" → z ≠ Str.ofString "k" → m₅ z = some v := fun e q1 q2 => (hz5 _ q1 q2).trans e
    rw [m_set hr5, m_set (em hm2 (by decide) (by decide)), m_set (em hm3 (by decide) (by decide)), m_set (em hm4 (by decide) (by decide))] at F₅
    obtain ⟨r, hr⟩ : ∃ r, ws[j]? = some r := ⟨ws[j]'(by omega), List.getElem?_eq_getElem (by omega)⟩
    obtain ⟨u, hu⟩ : ∃ u, us[j]? = some u := ⟨us[j]'(by omega), List.getElem?_eq_getElem (by omega)⟩
    obtain ⟨y, ty, hy, hyl⟩ := hlk j r hr
    have hrm := hok r (List.mem_of_getElem? hr)
    have htu := hus j u r hu hr
    have hj2 : ((0 : Int) + (j : Int) * 1).toNat = j := by omega
    have hj3 : (0 : Int) + (j : Int) * 1 < 2 ^ 63 := by omega
    have hj1 : (0 : Int) ≤ 0 + (j : Int) * 1 := by omega
    generalize (0 : Int) + (j : Int) * 1 = jj at *
    clear hl hcut hlk hus hrow hro hgood hll l₁ l₂ hI
    have hA1 := lower_ask H hask
    have nA := nice_host H hA1
    have hbd := hrm.bd
    have hdb : 0 ≤ dueD i r.d ∧ dueD i r.d ≤ 5 := by unfold dueD; split <;> omega
    have hlow := lower_row H hrm.rest hyl
    have nY := nice_row H hrm.rest hdb hyl
    have lA : ask.length ≤ 1000 := by
      have e1 := congrArg List.length hask
      have e2 := spell_len (alt_host H)
      simp only [List.length_map, Array.length_toList] at e1
      show ask.cps.size ≤ 1000
      omega
    have lY : y.length ≤ 1000 := by
      have e1 := congrArg List.length hyl
      have e2 := spell_len (alt_rest H hrm.rest)
      simp only [List.length_append, List.length_replicate, Array.length_toList] at e1
      show y.cps.size ≤ 1000
      omega
    have hu' : (us.map (fun u => Value.ref u.1))[j]? = some (.ref u.1) := by rw [List.getElem?_map, hu]; rfl
    obtain ⟨rl7, rodd, siR, siH, hs7, ⟨tlH, hlast⟩, ⟨rl, tlR, hrl⟩, hev, da, ua, hah⟩ := rest_facts H hrm.rest
    have hUL := user_law H hrm.rest hdb hA1 hyl hah
    have hDL := dom_law H hrm.rest hdb hA1 hyl hrl
    clear hr hu
    refine wpAny_execs_cons ?_
    k_steps
    unfold Stop
    (try dsimp only)
    refine item_litK ⟨_, N₅.get (.tail _ (.head _)), rfl, _, rfl⟩ hj1 hj3 (by rw [hj2]; exact hy) ?_
    k_steps
    unfold Stop
    (try dsimp only)
    refine user_spec ⟨X.keeps F₅.keep, _, _, _, T.keeps F₅.keep⟩ (by rw [depth_deeper]; decide) nA (by rw [hlow]; exact nY.1) lA lY ?_
    intro b1 h₆ t₆ k₆ e1
    rw [hlow] at e1
    have F₆ := frKeeps F₅ k₆
    have N₆ := newsKeeps N₅ k₆
    clear F₅ N₅
    k_steps
    unfold Stop
    (try dsimp only)
    refine item_litK ⟨_, N₆.get (.tail _ (.tail _ (.head _))), rfl, _, rfl⟩ hj1 hj3 (by rw [hj2]; exact hu') ?_
    k_steps
    unfold Stop
    (try dsimp only)
    refine item_tupleT (j := 0) (l := [Value.int (dueD i r.d) u.2, Value.ref r.rA]) ⟨_, N₆.get (.tail _ (.tail _ (.tail _ (.tail _ htu)))), rfl, _, rfl⟩ (by decide) (by decide) (by rfl) rfl ?_
    k_steps
    unfold Stop
    (try dsimp only)
    refine item_litK ⟨_, N₆.get (.tail _ (.tail _ (.head _))), rfl, _, rfl⟩ hj1 hj3 (by rw [hj2]; exact hu') ?_
    k_steps
    unfold Stop
    (try dsimp only)
    refine item_tupleT (j := 1) (l := [Value.int (dueD i r.d) u.2, Value.ref r.rA]) ⟨_, N₆.get (.tail _ (.tail _ (.tail _ (.tail _ htu)))), rfl, _, rfl⟩ (by decide) (by decide) (by rfl) rfl ?_
    k_steps
    unfold Stop
    (try dsimp only)
    refine us_spec ⟨X.keeps F₆.keep, _, _, _, T.keeps F₆.keep⟩ (by rw [depth_deeper]; decide) (by rw [units_deeper]; decide) (listOf_is N₆ (.tail _ (.tail _ (.tail _ (.tail _ hho))))) (listOf_is N₆ (.tail _ (.tail _ (.tail _ (.tail _ hrm.mr))))) (by simpa using siH) (by simpa using siR) hs7 rl7 hlast hah ?_
    intro b2 h₇ t₇ k₇ e2
    have F₇ := frKeeps F₆ k₇
    have N₇ := newsKeeps N₆ k₇
    clear F₆ N₆
    k_steps
    · exfalso
      (rename ((b1 != b2) = true) => hne)
      have hbb : b1 = b2 := by rw [e1]; exact Bool.eq_iff_iff.mpr (hUL.trans e2.symm)
      rw [hbb] at hne
      simp at hne
    unfold Stop
    refine wpAny_execs_nil ?_
    (try dsimp only)
    refine wpAny_execs_cons ?_
    k_steps
    unfold Stop
    (try dsimp only)
    refine item_litK ⟨_, N₇.get (.tail _ (.head _)), rfl, _, rfl⟩ hj1 hj3 (by rw [hj2]; exact hy) ?_
    k_steps
    unfold Stop
    (try dsimp only)
    refine dom_spec ⟨X.keeps F₇.keep, _, _, _, T.keeps F₇.keep⟩ (by rw [depth_deeper]; decide) nA (by rw [hlow]; exact nY.1) (by rw [hlow]; exact nY.2) lA lY ?_
    intro b3 h₈ t₈ k₈ e3
    rw [hlow] at e3
    have F₈ := frKeeps F₇ k₈
    have N₈ := newsKeeps N₇ k₈
    clear F₇ N₇
    k_steps
    unfold Stop
    (try dsimp only)
    refine item_litK ⟨_, N₈.get (.tail _ (.tail _ (.head _))), rfl, _, rfl⟩ hj1 hj3 (by rw [hj2]; exact hu') ?_
    k_steps
    unfold Stop
    (try dsimp only)
    refine item_tupleT (j := 0) (l := [Value.int (dueD i r.d) u.2, Value.ref r.rA]) ⟨_, N₈.get (.tail _ (.tail _ (.tail _ (.tail _ htu)))), rfl, _, rfl⟩ (by decide) (by decide) (by rfl) rfl ?_
    k_steps
    unfold Stop
    (try dsimp only)
    refine item_litK ⟨_, N₈.get (.tail _ (.tail _ (.head _))), rfl, _, rfl⟩ hj1 hj3 (by rw [hj2]; exact hu') ?_
    k_steps
    unfold Stop
    (try dsimp only)
    refine item_tupleT (j := 1) (l := [Value.int (dueD i r.d) u.2, Value.ref r.rA]) ⟨_, N₈.get (.tail _ (.tail _ (.tail _ (.tail _ htu)))), rfl, _, rfl⟩ (by decide) (by decide) (by rfl) rfl ?_
    k_steps
    unfold Stop
    (try dsimp only)
    refine do_spec ⟨X.keeps F₈.keep, _, _, _, T.keeps F₈.keep⟩ (by rfl) (by rw [depth_deeper]; decide) (by rw [units_deeper]; decide) (listOf_is N₈ (.tail _ (.tail _ (.tail _ (.tail _ hho))))) (listOf_is N₈ (.tail _ (.tail _ (.tail _ (.tail _ hrm.mr))))) (by simpa using siH) (by simpa using siR) hs7 rl7 rodd hlast hrl hev ?_
    intro b4 h₉ t₉ k₉ e4
    have F₉ := frKeeps F₈ k₉
    have N₉ := newsKeeps N₈ k₉
    clear F₈ N₈
    k_steps
    · exfalso
      (rename ((b3 != b4) = true) => hne)
      have hbb : b3 = b4 := by rw [e3]; exact Bool.eq_iff_iff.mpr (hDL.trans e4.symm)
      rw [hbb] at hne
      simp at hne
    unfold Stop
    refine wpAny_execs_nil ?_
    (try dsimp only)
    refine wpAny_execs_nil ?_
    (try dsimp only)
    refine UnrEnd.intro F₉ N₉ _ (fun p hp => hp) hoff ⟨rfl, rfl, ?_⟩
    intro z hz1 hz2
    show (if z = Str.ofString "k" then _ else if z = Str.ofString "rows" then some (Value.ref rA) else if z = Str.ofString "due" then some (Value.ref dA) else if z = Str.ofString "host" then some (Value.ref hA) else if z = Str.ofString "asking" then some (Value.str ask ta) else m₅ z) = m z
    rw [if_neg hz2, if_neg hz1]
    split
    · rename_i q; rw [q, hm2]
    split
    · rename_i q; rw [q, hm3]
    split
    · rename_i q; rw [q, hm4]
    exact hz5 z hz1 hz2
  case sdone =>
    rintro m₅ news₅ h₅ tk₅ ⟨rfl, hr5, hz5⟩ F₅ N₅
    (try dsimp only)
    refine wpAny_execs_nil ?_
    refine K _ _ _ F₅ (fun z h1 h2 => hz5 z h1 h2) (fun p hp => N₅ p (.tail _ hp))
end
end Mine
end
section
open PySem PySem.W PySem.Calls PySem.Spec PyProof.Rows
set_option maxRecDepth 100000
set_option linter.unusedVariables false
set_option maxHeartbeats 400000
namespace Mine
theorem offD11 : True ∨ (if True then True else True) := by (w_top off; first | (right; walk1; fail) | (left; trivial))
def rowT (i : Int) (r : RR) : List Nat := List.replicate (dueD i r.d).toNat 46 ++ spell r.rs
def MailSt (e : Int) (ws : List RR) (mail : Str) : Prop := ∃ rows, (∀ p ∈ rows, GoodRow p) ∧ rows.map (·.1) = ws.map (rowT e) ∧ mail.cps.toList = rowsG rows ∧ mail.cps.size < 1000
theorem mailN_rows (i : Int) (ws : List RR) : mailN i ws = rowsG (ws.map (fun r => (rowT i r, [13, 10]))) := by
  unfold mailN rowsG
  rw [List.map_map]
  rfl
theorem dots1_row {r : RR} {i : Int} (h : Hst r.rs) (hd : 0 ≤ r.d) (hi : 1 ≤ i) : dots1 (rowT (i - 1) r) = rowT i r := by
  unfold rowT dueD
  obtain ⟨c, q, e, hc⟩ := spell_head h
  by_cases h0 : 0 < r.d
  · rw [if_pos h0, if_pos h0]
    obtain ⟨k, hk⟩ : ∃ k, (r.d + (i - 1)).toNat = k + 1 := ⟨(r.d + (i - 1)).toNat - 1, by omega⟩
    have hk2 : (r.d + i).toNat = k + 2 := by omega
    rw [hk, hk2]
    rfl
  · rw [if_neg h0, if_neg h0, e]
    show dots1 (c :: q) = c :: q
    rw [dots1]
    intro t h1
    exact hc.nd (by injection h1)
section
variable {hs : List Value} {a0 a1 a2 a3 : Str} {d0 d1 d2 : Int} {more : List (Addr × Obj)} {ws : List RR} {mail : Str} {i : Int}
theorem mail_raw (H : HostIs hs a0 a1 a2 a3 d0 d1 d2) (hok : ∀ r ∈ ws, RR.Ok hs more r) (h4 : ws.length = 4) (hm : mail.cps.toList = rowsOf ws) : MailSt 0 ws mail := by
  refine ⟨ws.map (fun r => (rowT 0 r, r.sep.cps.toList)), ?_, ?_, ?_, ?_⟩
  · intro p hp
    obtain ⟨r, hr, rfl⟩ := List.mem_map.mp hp
    have ok := hok r hr
    refine row_good (hst_rest H ok.rest) ?_
    rcases ok.bs with e | e | e <;> rw [e]
    · exact .inl (by decide +kernel)
    · exact .inr (.inl (by decide +kernel))
    · exact .inr (.inr (by decide +kernel))
  · rw [List.map_map]; rfl
  · rw [hm]
    unfold rowsOf rowsG
    rw [List.map_map]
    congr 1
    refine List.map_congr_left (fun r hr => ?_)
    have hb := (hok r hr).bd
    show RR.row r = rowT 0 r ++ r.sep.cps.toList
    unfold RR.row rowT dueD
    by_cases h0 : 0 < r.d
    · rw [if_pos h0, Int.add_zero]
    · rw [if_neg h0, show r.d = 0 by omega]
  · have := rows_len H hok
    rw [← hm] at this
    simp at this
    omega
theorem mail_step (H : HostIs hs a0 a1 a2 a3 d0 d1 d2) (hok : ∀ r ∈ ws, RR.Ok hs more r) (hi : 1 ≤ i) (hm : MailSt (i - 1) ws mail) : dotq true (crlf mail.cps.toList) = mailN i ws := by
  obtain ⟨rows, hg, hr, hx, _⟩ := hm
  rw [hx, crlf_rows hg, dotq_rows hg, mailN_rows]
  have e : rows.map (fun p => (dots1 p.1, [13, 10])) = (rows.map (·.1)).map (fun t => (dots1 t, [13, 10])) := by rw [List.map_map]; rfl
  rw [e, hr, List.map_map]
  congr 1
  refine List.map_congr_left (fun r h => ?_)
  show (dots1 (rowT (i - 1) r), [13, 10]) = (rowT i r, [13, 10])
  rw [dots1_row (hst_rest H (hok r h).rest) (hok r h).bd.1 hi]
theorem mail_next (H : HostIs hs a0 a1 a2 a3 d0 d1 d2) (hok : ∀ r ∈ ws, RR.Ok hs more r) (h4 : ws.length = 4) (hi : 0 ≤ i ∧ i ≤ 3) (hm : mail.cps.toList = mailN i ws) : MailSt i ws mail := by
  refine ⟨ws.map (fun r => (rowT i r, [13, 10])), ?_, ?_, ?_, ?_⟩
  · intro p hp
    obtain ⟨r, hr, rfl⟩ := List.mem_map.mp hp
    exact row_good (hst_rest H (hok r hr).rest) (.inr (.inr rfl))
  · rw [List.map_map]; rfl
  · rw [hm, mailN_rows]
  · match ws, h4 with
    | [w0, w1, w2, w3], _ =>
      have l0 := row_short H hi (hok w0 (by simp))
      have l1 := row_short H hi (hok w1 (by simp))
      have l2 := row_short H hi (hok w2 (by simp))
      have l3 := row_short H hi (hok w3 (by simp))
      have e := congrArg List.length hm
      simp only [mailN, List.map_cons, List.map_nil, List.flatten_cons, List.flatten_nil, List.length_append, List.length_nil] at e l0 l1 l2 l3
      simp only [Array.length_toList] at e
      omega
end
local macro_rules | `(tactic| walk_at "call ref") => `(tactic| (refine stop_here ?_))
local macro_rules | `(tactic| walk_at "exec For") => `(tactic| (refine stop_here ?_))
local macro_rules | `(tactic| walk_at "pyIter ref") => `(tactic| (refine stop_here ?_))
local macro_rules | `(tactic| walk_at "execs cons") => `(tactic| (refine stop_here ?_))
section
variable {w : World} {s : Shared} {Q : Flow → Shared → Prop} {h₀ : Heap} {L fa hA ruA : Addr} {cd : Value} {m mg mb : Str → Option Value} {mean : ExcName → Option Value} {co : Obj} {v₀ : Option Value}
  {tm : Tok} {hs : List Value} {ws : List RR} {more : List (Addr × Obj)} {mail : Str} {a0 a1 a2 a3 : Str} {d0 d1 d2 : Int}
theorem law_d (X : (Mine.hd.heap_39 w.params).In h₀) (T : Top Mine.hd.view_39 lse mean mg mb h₀) (H : HostIs hs a0 a1 a2 a3 d0 d1 d2)
    (F : Fr h₀ L s.heap m) (hm1 : m (Str.ofString "host") = some (.ref hA)) (hm2 : m (Str.ofString "rules") = some (.ref ruA)) (hm3 : m (Str.ofString "mail") = some (.str mail tm))
    (N : News h₀ L s.heap ((hA, W.listOf hs.toArray 0) :: (ruA, W.listOf (ws.map (fun r => Value.ref r.tA)).toArray 4) :: more)) (hco : co.data = .cell v₀) (hcm : (L + 1, co) ∈ more)
    (hok : ∀ r ∈ ws, RR.Ok hs more r) (h4 : ws.length = 4) (hmail : mail.cps.toList = rowsOf ws)
    (K : ∀ (h' : Heap) (t' : Nat) (m' : Str → Option Value), Fr h₀ L h' m' → Q (.ret (.bool true)) { s with heap := h', toks := t' }) :
    wpAny (model prg w) (callerA.deeper (envOfC (Str.ofString "law") lawScope L fa cd)) (execs (lawBody.drop 9) (envOfC (Str.ofString "law") lawScope L fa cd)) Q (fun _ _ => False) s := by
  have hMS := mail_raw H hok h4 hmail
  rw [m_set hm1, m_set hm2, m_set hm3] at F
  have hB := (rfl : lawBody.drop 9 = lawBody.drop 9)
  conv at hB => rhs; whnf
  rw [hB]
  clear hB
  refine wpAny_execs_cons ?_
  k_steps
  unfold Stop
  (try dsimp only)
  refine sp_spec (vs := hs) ⟨X.keeps F.keep, _, _, _, T.keeps F.keep⟩ rfl (by rw [depth_deeper]; decide) (listOf_is N (.head _)) (alt_host H) ?_
  intro y u h₁ t₁ k₁ hy
  have F₁ := frKeeps F k₁
  have N₁ := newsKeeps N k₁
  have hyl : y.length ≤ 21 := by
    have := spell_len (alt_host H)
    rw [← hy] at this
    simpa [Str.length] using this
  have hask := upper_host H hy
  clear F N
  k_steps
  unfold Stop
  refine wpAny_execs_cons ?_
  (rename Fr _ _ _ _ => F₂)
  (rename News _ _ _ _ => N₂)
  refine For_turns F₂ ?_
  k_steps
  unfold Stop
  (rename News _ _ _ _ => N₃)
  (rename Fr _ _ _ _ => F₃)
  (try dsimp only at N₃ F₃)
  (try dsimp only)
  have cellNe : ∀ {p : Addr × Obj}, p ∈ (hA, W.listOf hs.toArray 0) :: (ruA, W.listOf (ws.map (fun r => Value.ref r.tA)).toArray 4) :: more → (∀ v, p.2.data ≠ .cell v) → p.1 ≠ L + 1 := by
    intro p hp hd he
    have g1 := N₃.get hp
    have g2 := N₃.get (.tail _ (.tail _ hcm))
    rw [he] at g1
    have : p.2 = co := Option.some.inj (g1.symm.trans g2)
    exact hd v₀ (by rw [this, hco])
  obtain ⟨more₁, hm1a, hm1b, hm1c⟩ : ∃ more₁ : List (Addr × Obj), (∀ p ∈ more₁, p ∈ more) ∧ (∀ p ∈ more, p.1 ≠ L + 1 → p ∈ more₁) ∧ ∀ p ∈ more₁, p.1 ≠ L + 1 := by
    refine ⟨more.filter (fun p => decide (p.1 ≠ L + 1)), fun p hp => (List.mem_filter.mp hp).1, fun p hp hne => List.mem_filter.mpr ⟨hp, decide_eq_true hne⟩, fun p hp => of_decide_eq_true (List.mem_filter.mp hp).2⟩
  have hruNe : ruA ≠ L + 1 := cellNe (p := (ruA, _)) (.tail _ (.head _)) (fun v q => by cases q)
  have hhaNe : hA ≠ L + 1 := cellNe (p := (hA, _)) (.head _) (fun v q => by cases q)
  have hok₁ : ∀ r ∈ ws, RR.Ok hs more₁ r := by
    intro r hr
    have ok := hok r hr
    exact ⟨hm1b _ ok.mt (cellNe (.tail _ (.tail _ ok.mt)) (fun v q => by cases q)), hm1b _ ok.mr (cellNe (.tail _ (.tail _ ok.mr)) (fun v q => by cases q)), ok.rest, ok.bd, ok.bs⟩
  have mk₄ : ∀ {hh : Heap}, News h₀ L hh ((hA, W.listOf hs.toArray 0) :: (ruA, W.listOf (ws.map (fun r => Value.ref r.tA)).toArray 4) :: more) → News h₀ L hh ((L + 1, co) :: (ruA, W.listOf (ws.map (fun r => Value.ref r.tA)).toArray 4) :: (hA, W.listOf hs.toArray 0) :: more₁) := by
    intro hh N p hp
    refine N p ?_
    simp only [List.mem_cons] at hp ⊢
    rcases hp with h | h | h | h
    · rw [h]; exact .inr (.inr hcm)
    · exact .inr (.inl h)
    · exact .inl h
    · exact .inr (.inr (hm1a p h))
  have N₄ := mk₄ N₃
  clear N₃ mk₄ cellNe
  refine iter_rangeT (n := 4) (fun j m' news => ∃ mail' tm' co' v' ta', m' (Str.ofString "host") = some (.ref hA) ∧ m' (Str.ofString "rules") = some (.ref ruA) ∧ m' (Str.ofString "asking") = some (.str (Txt.upper y) ta') ∧ m' (Str.ofString "mail") = some (.str mail' tm') ∧ MailSt ((j - 1 : Nat) : Int) ws mail' ∧ co'.data = .cell v' ∧
     news = (L + 1, co') :: (ruA, W.listOf (ws.map (fun r => Value.ref r.tA)).toArray 4) :: (hA, W.listOf hs.toArray 0) :: more₁) (by rfl) (by assumption) (by decide) (by decide) F₃ N₄ ⟨mail, tm, co, v₀, _, rfl, rfl, rfl, rfl, hMS, hco, rfl⟩ ?sturn ?sdone
  case sturn =>
    rintro I j t h₅ tk₅ m₅ news₅ hj ⟨mail', tm', co', v', ta', e1, e2, e3, e4, hM, hc', rfl⟩ hoff F₅ N₅
    clear N₄ F₃
    generalize krsIt (0 + ((j + 1 : Nat) : Int) * 1) (((4 : Nat) : Int) - ((j + 1 : Nat) : Int)) 1 = itO at *
    refine wpAny_assign_Name ?_
    refine stCN (own := [(I, itO)]) F₅ N₅ (by rfl) hc' ?o1 ?o2 ?_
    case o1 =>
      intro p hp
      rw [List.mem_singleton.mp hp]
      exact fun q => hoff (L + 1, co') (.head _) q.symm
    case o2 =>
      intro p hp
      simp only [List.mem_cons] at hp
      rcases hp with h | h | h
      · rw [h]; exact hruNe
      · rw [h]; exact hhaNe
      · exact hm1c p h
    intro h₆ o₆ F₆ N₆ hd₆
    (try dsimp only)
    have hi : 0 ≤ (0 : Int) + (j : Int) * 1 ∧ (0 : Int) + (j : Int) * 1 ≤ 3 := by omega
    have hj1 : ((j - 1 : Nat) : Int) = if 1 ≤ (0 : Int) + (j : Int) * 1 then (0 : Int) + (j : Int) * 1 - 1 else 0 := by split <;> omega
    have hj2 : ((j + 1 - 1 : Nat) : Int) = (0 : Int) + (j : Int) * 1 := by omega
    rw [hj1] at hM
    generalize (0 : Int) + (j : Int) * 1 = i at *
    have hS := (rfl : forBody 10 = forBody 10)
    refine turn3a (more := (I, itO) :: (hA, W.listOf hs.toArray 0) :: more₁) X T F₆ e1 e2 hi hd₆ ?n3a (fun r hr => (hok₁ r hr).mono (fun p hp => .tail _ (.tail _ hp))) h4 ?_
    case n3a =>
      intro p hp
      refine N₆ p ?_
      simp only [List.mem_cons, List.mem_append, List.not_mem_nil, or_false] at hp ⊢
      rcases hp with h | h | h | h | h
      · exact .inr (.inl h)
      · exact .inr (.inr (.inl h))
      · exact .inl h
      · exact .inr (.inr (.inr (.inl h)))
      · exact .inr (.inr (.inr (.inr h)))
    intro h₇ t₇ dA us more' hu4 F₇ N₇ hsub hus
    have hok₂ : ∀ r ∈ ws, RR.Ok hs ((ruA, W.listOf (ws.map (fun r => Value.ref r.tA)).toArray 4) :: more') r := fun r hr => (hok₁ r hr).mono (fun p hp => .tail _ (hsub p (.tail _ (.tail _ hp))))
    have hus₂ : ∀ (k : Nat) (u : Addr × Tok) (r : RR), us[k]? = some u → ws[k]? = some r → (u.1, tupO (dueD i r.d) u.2 r.rA) ∈ (ruA, W.listOf (ws.map (fun r => Value.ref r.tA)).toArray 4) :: more' := fun k u r a b => .tail _ (hus k u r a b)
    have hq : 0 < i → dotq true (crlf mail'.cps.toList) = mailN i ws := by
      intro h0
      rw [if_pos (by omega)] at hM
      exact mail_step H hok (by omega) hM
    have hsz : mail'.cps.size < 1000 := by
      obtain ⟨_, _, _, _, h⟩ := hM
      exact h
    refine turn3b X T H F₇ (m_skip e4 (by decide)) (if_pos rfl) hi hd₆ N₇ hok₂ h4 hu4 hus₂ hsz hq ?_
    intro h₈ t₈ m₈ mail₈ tm₈ hp₈ F₈ y1 y2 N₈ y3 y4
    have hM₈ : MailSt i ws mail₈ := by
      by_cases h0 : 0 < i
      · exact mail_next H hok h4 hi (y3 h0)
      · rw [if_neg (by omega)] at hM
        rw [y4 h0, show i = 0 by omega]
        exact hM
    obtain ⟨rows, hgood, hro, hrow, hml⟩ := hM₈
    have hin : (hA, W.listOf hs.toArray 0) ∈ (ruA, W.listOf (ws.map (fun r => Value.ref r.tA)).toArray 4) :: more' := .tail _ (hsub _ (.tail _ (.head _)))
    refine turn3c X T H F₈ hp₈ y1 ((y2 _ (by decide)).trans (if_pos rfl)) ((y2 _ (by decide)).trans (m_skip e1 (by decide))) ((y2 _ (by decide)).trans (m_skip e3 (by decide))) hi N₈ hok₂ h4 hu4 hin hus₂ hml rows hrow hgood hro hask ?_
    intro h₉ t₉ m₉ F₉ z₉ N₉
    refine UnrEnd.intro F₉ N₉ ((L + 1, o₆) :: (ruA, W.listOf (ws.map (fun r => Value.ref r.tA)).toArray 4) :: (hA, W.listOf hs.toArray 0) :: more₁) ?esub ?eoff ⟨mail₈, tm₈, o₆, _, ta', ?f1, ?f2, ?f3, ?f4, ?f5, hd₆, rfl⟩
    case esub =>
      intro p hp
      simp only [List.mem_cons] at hp
      rcases hp with h | h | h | h | h
      · exact .tail _ (.tail _ (.tail _ (hsub p (by rw [h]; exact .head _))))
      · rw [h]; exact .tail _ (.head _)
      · rw [h]; exact .tail _ (.tail _ (.head _))
      · rw [h]; exact .tail _ (.tail _ hin)
      · exact .tail _ (.tail _ (.tail _ (hsub p (.tail _ (.tail _ h)))))
    case eoff =>
      intro p hp
      simp only [List.mem_cons] at hp
      rcases hp with h | h | h | h
      · rw [h]; exact hoff (L + 1, co') (.head _)
      · exact hoff p (.tail _ (by rw [h]; exact .head _))
      · exact hoff p (.tail _ (.tail _ (by rw [h]; exact .head _)))
      · exact hoff p (.tail _ (.tail _ (.tail _ h)))
    case f1 => exact (z₉ _ (by decide) (by decide)).trans ((y2 _ (by decide)).trans (m_skip e1 (by decide)))
    case f2 => exact (z₉ _ (by decide) (by decide)).trans ((y2 _ (by decide)).trans (m_skip e2 (by decide)))
    case f3 => exact (z₉ _ (by decide) (by decide)).trans ((y2 _ (by decide)).trans (m_skip e3 (by decide)))
    case f4 => exact (z₉ _ (by decide) (by decide)).trans y1
    case f5 => rw [hj2]; exact ⟨rows, hgood, hro, hrow, hml⟩
  case sdone =>
    rintro m₅ news₅ h₅ tk₅ ⟨mail', tm', co', v', ta', e1, e2, e3, e4, hM, hc', rfl⟩ F₅ N₅
    (try dsimp only)
    refine wpAny_execs_cons ?_
    k_steps
    all_goals (show Q _ _; exact K _ _ _ F₅)
end
end Mine
end
section
open PySem PySem.W PySem.Calls PySem.Spec PyProof.Rows
set_option maxRecDepth 100000
set_option linter.unusedVariables false
set_option maxHeartbeats 400000
namespace Mine
theorem offD12 : True ∨ (if True then True else True) := by (w_top off; first | (right; walk1; fail) | (left; trivial))
section
variable {w : World} {s : Shared} {Q : Flow → Shared → Prop} {h₀ : Heap} {L fa sc : Addr} {cd : Value} {m mg mb : Str → Option Value} {mean : ExcName → Option Value} {co : Obj} {vs : List Value} {ns : List Int} {v₀ : Option Value}
theorem law_all (X : (Mine.hd.heap_39 w.params).In h₀) (T : Top Mine.hd.view_39 lse mean mg mb h₀)
    (F : Fr h₀ L s.heap m) (hm : m (Str.ofString "script") = some (.ref sc)) (N : News h₀ L s.heap [(L + 1, co)]) (hco : co.data = .cell v₀) (hL : h₀.IsList sc vs.toArray) (hI : IntsAre vs ns) (hlen : ns.length ≤ 63)
    (K : ∀ (h' : Heap) (t' : Nat) (m' : Str → Option Value), Fr h₀ L h' m' → Q (.ret (.bool true)) { s with heap := h', toks := t' }) :
    wpAny (model prg w) (callerA.deeper (envOfC (Str.ofString "law") lawScope L fa cd)) (execs lawBody (envOfC (Str.ofString "law") lawScope L fa cd)) Q (fun _ _ => False) s := by
  refine @law_a w (fun _ _ => False) s Q h₀ L fa sc cd m mg mb mean co vs ns X T F hm N hL hI hlen ?_
  intro h₁ t₁ m₁ dn n0 n1 n2 n3 n4 n5 n6 n7 t0 t1 t2 t3 t4 t5 t6 t7 F₁ e1 N₁ l₁ hb
  refine @law_b w { s with heap := h₁, toks := t₁ } Q h₀ L fa dn cd m₁ mg mb mean co n0 n1 n2 n3 n4 n5 n6 n7 t0 t1 t2 t3 t4 t5 t6 t7 X T F₁ e1 N₁ hb ?_
  intro h₂ t₂ m₂ hA hs a0 a1 a2 a3 d0 d1 d2 H F₂ e2 e3 N₂
  refine @law_c w { s with heap := h₂, toks := t₂ } Q h₀ L fa dn hA cd m₂ mg mb mean co n0 n1 n2 n3 n4 n5 n6 n7 t0 t1 t2 t3 t4 t5 t6 t7 hs a0 a1 a2 a3 d0 d1 d2 X T F₂ e2 e3 H N₂ hb ?_
  intro h₃ t₃ m₃ ruA ws more mail tm h4 hok F₃ e4 e5 e6 hmail hcm N₃
  exact @law_d w { s with heap := h₃, toks := t₃ } Q h₀ L fa hA ruA cd m₃ mg mb mean co v₀ tm hs ws more mail a0 a1 a2 a3 d0 d1 d2 X T H F₃ e4 e5 e6 N₃ hco hcm hok h4 hmail (fun h' t' m' F' => K h' t' m' F')
end
end Mine
end
section
theorem Mine.offLAST : True ∨ (if True then True else True) := by (w_top off; first | (right; walk1; fail) | (left; trivial))
end
open PySem PySem.W PySem.Calls PySem.Spec PyProof.Rows
set_option maxRecDepth 100000
set_option maxHeartbeats 4000000 in
theorem PySem.Challenge.cw_rl0028_01_holds : PySem.Challenge.rw_rl0028_01.Holds := by
  exact Mine.hd (by
    w_strict (k_go0
              (rename IntsAre _ _ => hI)
              (rename News _ _ _ _ => N)
              (rename Fr _ _ _ _ => F)
              (rename (_ = Data.cell _) => hco)
              (rename Top _ _ _ _ _ _ => T)
              (rename Heap.IsList _ _ _ => hL)
              (rename (Frag.In _ _) => KX)
              (rename (¬ _ < _) => hlen)
              (rename (_ = #[]) => hgen)
              refine wpAny_mono (Mine.law_all KX T F rfl N hco hL hI (by omega) ?_) (fun _ _ q => q) (fun _ _ q => q.elim)
              intro h' t' m' F'
              refine goodW_bool F' hgen (raisesW_false (by wrow_none_raised)) ?_
              wrow_post))
