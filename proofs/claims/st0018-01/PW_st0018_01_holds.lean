import PyProof.Rows.All
import Wide.All
import OpenK.AllK
import Wide.FinOn
import KE.KTryDeepN
import Lean
import PySem.Challenge.RW_st0018_01
set_option Elab.async false
section
local macro_rules | `(tactic| walk_at $s:str) => `(tactic| k_extra $s)
local macro_rules | `(tactic| k_mem) => `(tactic| k_extra "k_mem")
local macro_rules | `(tactic| ktr_units) => `(tactic| k_extra "ktr_units")
local macro_rules | `(tactic| cell_enter) => `(tactic| k_extra "cell_enter")
section
open PySem PySem.W PyProof.Rows PySem.Calls
/-- the walker's notes of the text before are put away -/
theorem Mine.freshHd {prog : Program} {w : World} {A : Around} {env : Env} {Q : Flow → Shared → Prop} {E : Value → Shared → Prop} {s : Shared} (h : Q .next s) : wpAny (model prog w) A (execs [] env) Q E s := by
  w_on
  w_top off
  k_with_none
  walk1
  exact h
end
section
open PySem PySem.W PyProof.Rows
set_option maxRecDepth 100000
set_option maxHeartbeats 8000000
namespace Mine
open_top hd for PySem.Challenge.rw_st0018_01
end Mine
end

section
open PySem PySem.W PyProof.Rows PySem.Calls
/-- the walker's notes of the text before are put away -/
theorem Mine.freshCx {prog : Program} {w : World} {A : Around} {env : Env} {Q : Flow → Shared → Prop} {E : Value → Shared → Prop} {s : Shared} (h : Q .next s) : wpAny (model prog w) A (execs [] env) Q E s := by
  w_on
  w_top off
  k_with_none
  walk1
  exact h
end
section
open PySem PySem.W PyProof.Rows PySem.Calls
set_option maxRecDepth 100000
set_option maxHeartbeats 8000000
namespace Mine
/-- what a caller knows: the frames below, its frame, the written part, its ledger, the top -/
structure Cx (w : World) (p : Program) (loose : List Str) (mean : ExcName → Option Value) (mg mb : Str → Option Value) (cs : Scope) (outer : List Env) (A₀ : Around) (base h₀ : Heap) (L : Addr) (m : Str → Option Value) (news : List (Addr × Obj)) (h : Heap) : Prop where
  B : Below A₀ base outer h₀
  F : Fr h₀ L h m
  X : (Mine.hd.heap_39 w.params).In h₀
  N : News h₀ L h news
  T : Top p loose mean mg mb h₀
  hk : cs.kind = .function

end Mine
end

section
open PySem PySem.W PyProof.Rows PySem.Calls
/-- the walker's notes of the text before are put away -/
theorem Mine.freshRx1 {prog : Program} {w : World} {A : Around} {env : Env} {Q : Flow → Shared → Prop} {E : Value → Shared → Prop} {s : Shared} (h : Q .next s) : wpAny (model prog w) A (execs [] env) Q E s := by
  w_on
  w_top off
  k_with_none
  walk1
  exact h
end
section
open PySem PySem.Sre PySem.Builtin.Re
set_option maxRecDepth 100000
namespace Mine

theorem runFor_done {m : M} (h : m.outcome.isSome = true) (k : Nat) : M.runFor k m = m := by
  cases k with
  | zero => rfl
  | succ k => rw [M.runFor, if_pos h]
theorem runFor_add (a b : Nat) (m : M) : M.runFor (a + b) m = M.runFor b (M.runFor a m) := by
  induction a generalizing m with
  | zero => rw [Nat.zero_add]; rfl
  | succ a ih =>
    by_cases h : m.outcome.isSome = true
    · rw [runFor_done h, runFor_done h, runFor_done h]
    · rw [Nat.add_right_comm, M.runFor, if_neg h, M.runFor, if_neg h]
      exact ih _
theorem runFor_more {m : M} {k : Nat} (h : (M.runFor k m).outcome.isSome = true) (j : Nat) (hj : k ≤ j) : M.runFor j m = M.runFor k m := by
  obtain ⟨d, rfl⟩ := Nat.exists_eq_add_of_le hj
  rw [runFor_add, runFor_done h]

section
variable {prog : Program} {w : World} {A : Around} {E : Value → Shared → Prop} {s : Shared}
theorem wp_reDrive {Q : M → Shared → Prop} : ∀ (n k : Nat) (m : M), (M.runFor k m).outcome.isSome = true → k ≤ 4 * n → 0 < n → Q (M.runFor k m) s → wpAny (model prog w) A (reDrive n m) Q E s
  | 0, _, _, _, _, h0, _ => absurd h0 (Nat.lt_irrefl _)
  | n + 1, k, m, hk, hle, _, hQ => by
    show wpAny _ _ (if (M.runFor 4 m).outcome.isSome = true then pure (M.runFor 4 m) else do rule "sre.turn"; reDrive n (M.runFor 4 m)) _ _ _
    by_cases h : (M.runFor 4 m).outcome.isSome = true
    · rw [if_pos h]
      refine wpAny_pure ?_
      have : M.runFor 4 m = M.runFor k m := by
        rcases Nat.le_total k 4 with q | q
        · exact runFor_more hk _ q
        · exact (runFor_more h _ q).symm
      rw [this]; exact hQ
    · rw [if_neg h]
      have h4 : 4 < k := by
        rcases Nat.lt_or_ge 4 k with q | q
        · exact q
        · exfalso; rw [runFor_more hk _ q] at h; exact h hk
      have e : M.runFor (k - 4) (M.runFor 4 m) = M.runFor k m := by
        rw [← runFor_add]; congr 1; omega
      refine wpAny_bind (wpAny_rule ?_)
      cases n with
      | zero => omega
      | succ n => exact wp_reDrive (n + 1) (k - 4) _ (by rw [e]; exact hk) (by omega) (Nat.succ_pos _) (by rw [e]; exact hQ)

theorem wp_reRun {Q : Option M → Shared → Prop} {m : M} (k : Nat) {o : Sre.Outcome} (ho : (M.runFor k m).outcome = some o) (hk : k ≤ 2 ^ 26)
    (h : match o with | .matched => Q (some (M.runFor k m)) s | .failed => Q none s | .stuck _ => False) : wpAny (model prog w) A (reRunToEnd m) Q E s := by
  unfold reRunToEnd
  refine wpAny_bind (wp_reDrive (2 ^ 64) k m (by rw [ho]; rfl) (by omega) (by omega) ?_)
  refine wpAny_bind (wpAny_forIn_list _ (fun _ _ s' => s' = s) _ ?_ ?_ _ _ rfl)
  · rintro x rest b s' rfl
    by_cases q : (M.runFor k m).seen.has x = true
    · rw [if_pos q]; exact wpAny_bind (wpAny_rule (wpAny_pure rfl))
    · rw [if_neg q]; exact wpAny_pure rfl
  · rintro b s' rfl
    rw [ho]
    cases o with
    | matched => exact wpAny_pure h
    | failed => exact wpAny_pure h
    | stuck w => exact h.elim
end
end Mine
end

section
open PySem PySem.W PyProof.Rows PySem.Calls
/-- the walker's notes of the text before are put away -/
theorem Mine.freshRx2 {prog : Program} {w : World} {A : Around} {env : Env} {Q : Flow → Shared → Prop} {E : Value → Shared → Prop} {s : Shared} (h : Q .next s) : wpAny (model prog w) A (execs [] env) Q E s := by
  w_on
  w_top off
  k_with_none
  walk1
  exact h
end
section
open PySem PySem.Sre PySem.Builtin.Re
set_option maxRecDepth 100000
namespace Mine
def code1 : Array Nat := #[14, 4, 0, 1, 1, 6, 1, 16, 46, 1]
def code2 : Array Nat := #[14, 9, 4, 1, 2, 16, 10, 16, 13, 0, 7, 7, 16, 13, 16, 10, 15, 18, 5, 16, 10, 15, 13, 11, 16, 13, 5, 5, 0, 16, 10, 1, 15, 2, 0, 1]
def codeN : Array Nat := #[14, 10, 4, 1, 1, 22, 0, 31, 16, 127, 0, 13, 7, 22, 0, 31, 16, 127, 0, 1]
def codeV : Array Nat := #[14, 14, 4, 1, 1, 9, 4294966783, 0, 0, 2147483648, 0, 0, 0, 0, 0, 13, 11, 9, 4294966783, 0, 0, 2147483648, 0, 0, 0, 0, 0, 1]
abbrev clean (c : Nat) : Prop := 32 ≤ c ∧ c < 127

theorem inSet2 (c : Nat) (seen : Seen) : inSet code2 c 36 5 true seen = if (c == 10) = true then .ok (true, seen.add 16) else if (c == 13) = true then .ok (true, (seen.add 16).add 16) else .ok (false, ((seen.add 16).add 16).add 0) := by
  rfl
theorem inSetN {c : Nat} (h : clean c) (seen : Seen) : ∃ seen', inSet codeN c 20 5 true seen = .ok (false, seen') := by
  refine ⟨((seen.add 22).add 16).add 0, ?_⟩
  show (if (decide (0 ≤ c) && decide (c ≤ 31)) = true then _ else if (c == 127) = true then _ else _) = _
  obtain ⟨h1, h2⟩ := h
  rw [if_neg (by simp; omega), if_neg (by simp; omega)]
  rfl
theorem inSetV {c : Nat} (h : clean c) (seen : Seen) : ∃ seen', inSet codeV c 28 5 true seen = .ok (false, seen') := by
  refine ⟨(seen.add 9).add 0, ?_⟩
  show (if (decide (c < 256) && (codeV.getD (5 + (1 + c / 32)) 0).testBit (c % 32)) = true then _ else _) = _
  have key : ∀ c, c < 127 → 32 ≤ c → (codeV.getD (5 + (1 + c / 32)) 0).testBit (c % 32) = false := by decide +kernel
  rw [if_neg (by rw [key c h.2 h.1]; simp)]
  rfl

theorem admitted_none (m : M) : ∀ (fuel s : Nat) (seen : Seen), (∀ k, s ≤ k → k < m.lim → ∀ seen, ∃ seen', inSet m.code (m.text.getD k 0) m.code.size 5 true seen = .ok (false, seen')) → ∃ seen', M.admitted m fuel s seen = .ok (none, seen')
  | 0, _, seen, _ => ⟨seen, rfl⟩
  | fuel + 1, s, seen, h => by
    by_cases q : s ≥ m.lim
    · exact ⟨seen, by unfold M.admitted; rw [if_pos q]⟩
    · obtain ⟨seen1, e1⟩ := h s (Nat.le_refl _) (by omega) seen
      obtain ⟨seen2, e2⟩ := admitted_none m fuel (s + 1) seen1 (fun k h1 h2 => h k (by omega) h2)
      exact ⟨seen2, by unfold M.admitted; rw [if_neg q, e1]; exact e2⟩
theorem admitted_some (m : M) {k₀ : Nat} (hk : k₀ < m.lim) (hyes : ∀ seen, ∃ seen', inSet m.code (m.text.getD k₀ 0) m.code.size 5 true seen = .ok (true, seen')) :
    ∀ (fuel s : Nat) (seen : Seen), s ≤ k₀ → k₀ < s + fuel → (∀ k, s ≤ k → k < k₀ → ∀ seen, ∃ seen', inSet m.code (m.text.getD k 0) m.code.size 5 true seen = .ok (false, seen')) → ∃ seen', M.admitted m fuel s seen = .ok (some k₀, seen')
  | 0, s, _, h1, h2, _ => absurd h2 (by omega)
  | fuel + 1, s, seen, h1, h2, h => by
    by_cases q : s = k₀
    · subst q
      obtain ⟨seen1, e1⟩ := hyes seen
      exact ⟨seen1, by unfold M.admitted; rw [if_neg (by omega), e1]⟩
    · obtain ⟨seen1, e1⟩ := h s (Nat.le_refl _) (by omega) seen
      obtain ⟨seen2, e2⟩ := admitted_some m hk hyes fuel (s + 1) seen1 (by omega) (by omega) (fun k h1 h2 => h k (by omega) h2)
      exact ⟨seen2, by unfold M.admitted; rw [if_neg (by omega), e1]; exact e2⟩

theorem say_false {m : M} (h1 : m.frames = []) (h2 : m.outcome = none) : (M.runFor 2 (m.say false)).outcome = some .failed := by
  have e : M.runFor 2 (m.say false) = (m.say false).step.step ∨ M.runFor 2 (m.say false) = (m.say false).step := by
    unfold M.runFor
    have : (m.say false).outcome.isSome = false := by unfold M.say; simp [h2]
    rw [this]
    unfold M.runFor
    by_cases q : (m.say false).step.outcome.isSome = true
    · right; simp [q]
    · left; simp [q]; unfold M.runFor; rfl
  have s1 : (m.say false).step.outcome = some .failed := by
    unfold M.step M.say
    simp [h1, h2]
  have s2 : (m.say false).step.step = (m.say false).step := by
    generalize (m.say false).step = m' at s1
    unfold M.step
    simp [s1]
  rcases e with e | e
  · rw [e, s2]; exact s1
  · rw [e]; exact s1

/-- a search through a text that the first set never admits -/
theorem search_none {code text : Array Nat} (hc : code = codeN ∨ code = codeV) (ht : ∀ k, k < text.size → clean (text.getD k 0)) (pos : Nat) :
    (M.runFor 2 (forSearch code text 0 pos text.size false)).outcome = some .failed := by
  have hin : ∀ k, k < text.size → ∀ seen, ∃ seen', inSet code (text.getD k 0) code.size 5 true seen = .ok (false, seen') := by
    intro k hk seen
    rcases hc with rfl | rfl
    · exact inSetN (ht k hk) seen
    · exact inSetV (ht k hk) seen
  have hf : ∀ m : M, m.code = code → m.hasFirstSet = true := by
    intro m e
    unfold M.hasFirstSet
    rw [e]
    rcases hc with rfl | rfl <;> rfl
  unfold forSearch
  dsimp only
  split
  · exact say_false rfl rfl
  · unfold M.attemptFrom
    rw [hf _ rfl]
    have adm : ∀ (m : M) fuel s seen r, M.admitted m fuel s seen = r → m.code = code → m.text = text → m.lim = text.size → ∃ seen', r = .ok (none, seen') := by
      rintro m fuel s seen r rfl rfl rfl h3
      exact admitted_none m fuel s seen (fun k _ hk => hin k (by rw [← h3]; exact hk))
    rw [if_neg (by simp)]
    split
    · rename_i e'
      obtain ⟨_, e⟩ := adm _ _ _ _ _ e' rfl rfl rfl
      exact absurd e (by simp)
    · exact say_false rfl rfl
    · rename_i e'
      obtain ⟨_, e⟩ := adm _ _ _ _ _ e' rfl rfl rfl
      exact absurd e (by simp)
end Mine
end

section
open PySem PySem.W PyProof.Rows PySem.Calls
/-- the walker's notes of the text before are put away -/
theorem Mine.freshRx3 {prog : Program} {w : World} {A : Around} {env : Env} {Q : Flow → Shared → Prop} {E : Value → Shared → Prop} {s : Shared} (h : Q .next s) : wpAny (model prog w) A (execs [] env) Q E s := by
  w_on
  w_top off
  k_with_none
  walk1
  exact h
end
section
open PySem PySem.Sre PySem.Builtin.Re
set_option maxRecDepth 100000
set_option linter.all false
namespace Mine
theorem step_stay {m : M} (h : m.outcome.isSome = true) : m.step = m := by unfold M.step; rw [if_pos h]
theorem runFor_succ (k : Nat) (m : M) : M.runFor (k + 1) m = M.runFor k m.step := by
  by_cases h : m.outcome.isSome = true
  · rw [step_stay h, runFor_done h, runFor_done h]
  · rw [M.runFor, if_neg h]
/-- a machine at work without groups or loops -/
def St (code text : Array Nat) (start ls pc pos handed : Nat) (om : Bool) (fr : List PySem.Sre.Frame) (wt : Nat) (ans : Option Bool) (seen : Seen) (out : Option Sre.Outcome) : M :=
  { code, text, lim := text.size, start, lastStart := ls, wholeText := false, mustAdvance := false, pc, pos, handed, outermost := om, marks := #[], lastmark := -1, lastindex := -1, loops := #[], inner := none, frames := fr, weight := wt, answer := ans, seen, outcome := out }
def fStart (pc q : Nat) : PySem.Sre.Frame := { wait := .nextStart, pc, pos := q, outermost := true }
def fBranch (pc q : Nat) : PySem.Sre.Frame := { wait := .nextBranch, pc, pos := q, outermost := true, kept := { lastmark := -1, lastindex := -1, whole := false, marks := #[] } }
def fNot (pc q : Nat) : PySem.Sre.Frame := { wait := .lookNot, pc, pos := q, outermost := true, kept := { lastmark := -1, lastindex := -1, whole := false, marks := #[] } }

section
variable {text : Array Nat} {st ls pos h : Nat} {om : Bool} {fr : List PySem.Sre.Frame} {wt : Nat} {seen : Seen}
theorem lit_yes {code : Array Nat} {pc c : Nat} (hpc : pc < code.size) (h0 : code.getD pc 0 = 16) (h1 : code.getD (pc + 1) 0 = c) (hp : pos < text.size) (hc : text.getD pos 0 = c) :
    (St code text st ls pc pos h om fr wt none seen none).step = St code text st ls (pc + 2) (pos + 1) h om fr wt none (seen.add 16) none := by
  have e : (St code text st ls pc pos h om fr wt none seen none).step = (St code text st ls pc pos h om fr wt none seen none).exec := by
    show (if pc < code.size then _ else _) = _
    rw [if_pos hpc]
  rw [e]
  unfold M.exec
  have w0 : (St code text st ls pc pos h om fr wt none seen none).word 0 = 16 := h0
  rw [w0]
  show (if pos ≥ text.size then _ else match accepts code pc (text.getD pos 0) (seen.add 16) with | .error why => _ | .ok (false, seen) => _ | .ok (true, seen) => _) = _
  rw [if_neg (by omega)]
  have a : accepts code pc (text.getD pos 0) (seen.add 16) = .ok (true, seen.add 16) := by
    unfold accepts
    rw [h0]
    show Except.ok (text.getD pos 0 == code.getD (pc + 1) 0, seen.add 16) = _
    rw [h1, hc]; simp
  have iw : itemWidth code pc = 2 := by unfold itemWidth; rw [h0]; rfl
  rw [a]
  show St code text st ls (pc + itemWidth code pc) (pos + 1) h om fr wt none (seen.add 16) none = _
  rw [iw]
theorem lit_no {code : Array Nat} {pc c : Nat} (hpc : pc < code.size) (h0 : code.getD pc 0 = 16) (h1 : code.getD (pc + 1) 0 = c) (hc : pos ≥ text.size ∨ text.getD pos 0 ≠ c) :
    (St code text st ls pc pos h om fr wt none seen none).step = St code text st ls pc pos h om fr wt (some false) (seen.add 16) none := by
  have e : (St code text st ls pc pos h om fr wt none seen none).step = (St code text st ls pc pos h om fr wt none seen none).exec := by
    show (if pc < code.size then _ else _) = _
    rw [if_pos hpc]
  rw [e]
  unfold M.exec
  have w0 : (St code text st ls pc pos h om fr wt none seen none).word 0 = 16 := h0
  rw [w0]
  show (if pos ≥ text.size then _ else match accepts code pc (text.getD pos 0) (seen.add 16) with | .error why => _ | .ok (false, seen) => _ | .ok (true, seen) => _) = _
  by_cases q : pos ≥ text.size
  · rw [if_pos q]; rfl
  · rw [if_neg q]
    have a : accepts code pc (text.getD pos 0) (seen.add 16) = .ok (false, seen.add 16) := by
      unfold accepts
      rw [h0]
      show Except.ok (text.getD pos 0 == code.getD (pc + 1) 0, seen.add 16) = _
      rw [h1]
      rcases hc with hc | hc
      · exact absurd hc q
      · rw [show (text.getD pos 0 == c) = false from beq_eq_false_iff_ne.mpr hc]
    rw [a]
    rfl
/-- the end of a match: SUCCESS at 35, the branch, the start -/
theorem done2 {q e : Nat} {b : Nat} : ∃ m, M.runFor 4 (St code2 text q ls 35 e h true [fBranch b q, fStart 10 q] 2 none seen none) = m ∧ m.outcome = some .matched ∧ m.start = q ∧ m.handed = e := by
  refine ⟨_, rfl, ?_, ?_, ?_⟩ <;> (rw [runFor_succ, runFor_succ, runFor_succ, runFor_succ]; rfl)
theorem branch2 {q : Nat} : (St code2 text q ls 10 q q true [fStart 10 q] 1 none seen none).step = St code2 text q ls 12 q q true [fBranch 11 q, fStart 10 q] 2 none (seen.add 7) none := rfl
theorem alt2 {q pos : Nat} : (St code2 text q ls pc pos h true [fBranch 11 q, fStart 10 q] 2 (some false) seen none).step = St code2 text q ls 19 q q true [fBranch 18 q, fStart 10 q] 2 none seen none := rfl
theorem alt3 {q pos : Nat} : (St code2 text q ls pc pos h true [fBranch 18 q, fStart 10 q] 2 (some false) seen none).step = St code2 text q ls 24 q q true [fBranch 23 q, fStart 10 q] 2 none seen none := rfl
theorem jump2 {q pos : Nat} : (St code2 text q ls 16 pos h true fr wt none seen none).step = St code2 text q ls 35 pos h true fr wt none (seen.add 15) none := rfl
theorem jump2b {q pos : Nat} : (St code2 text q ls 21 pos h true fr wt none seen none).step = St code2 text q ls 35 pos h true fr wt none (seen.add 15) none := rfl
theorem jump2c {q pos : Nat} : (St code2 text q ls 32 pos h true fr wt none seen none).step = St code2 text q ls 35 pos h true fr wt none (seen.add 15) none := rfl
theorem not2 {q pos : Nat} : (St code2 text q ls 26 pos h true [fBranch 23 q, fStart 10 q] 2 none seen none).step = St code2 text q ls 29 pos pos false [fNot 26 pos, fBranch 23 q, fStart 10 q] 3 none (seen.add 5) none := rfl
theorem unnot2 {q pos p : Nat} : (St code2 text q ls pc p h om [fNot 26 pos, fBranch 23 q, fStart 10 q] 3 (some false) seen none).step = St code2 text q ls 32 pos h true [fBranch 23 q, fStart 10 q] 2 none seen none := rfl

theorem run2 {q c e : Nat} (hq : q < text.size) (hc : text.getD q 0 = c) (h2 : c = 10 ∧ e = q + 1 ∨ c = 13 ∧ (q + 1 < text.size ∧ text.getD (q + 1) 0 = 10) ∧ e = q + 2 ∨ c = 13 ∧ (q + 1 ≥ text.size ∨ text.getD (q + 1) 0 ≠ 10) ∧ e = q + 1) :
    ∃ k m, k ≤ 40 ∧ M.runFor k (St code2 text q ls 10 q q true [fStart 10 q] 1 none seen none) = m ∧ m.outcome = some .matched ∧ m.start = q ∧ m.handed = e := by
  rcases h2 with ⟨rfl, rfl⟩ | ⟨rfl, ⟨ha, hb⟩, rfl⟩ | ⟨rfl, hb, rfl⟩
  · refine ⟨9, _, by omega, rfl, ?_⟩
    rw [show (9 : Nat) = 4 + 1 + 1 + 1 + 1 + 1 from rfl, runFor_succ, branch2, runFor_succ, lit_no (c := 13) (by decide) rfl rfl (.inr (by omega)), runFor_succ, alt2, runFor_succ, lit_yes (c := 10) (by decide) rfl rfl hq hc, runFor_succ, jump2b]
    obtain ⟨m, e, h⟩ := done2 (text := text) (ls := ls) (h := q) (seen := _) (q := q) (e := q + 1) (b := 18)
    rw [e]; exact h
  · refine ⟨8, _, by omega, rfl, ?_⟩
    rw [show (8 : Nat) = 4 + 1 + 1 + 1 + 1 from rfl, runFor_succ, branch2, runFor_succ, lit_yes (c := 13) (by decide) rfl rfl hq hc, runFor_succ, lit_yes (c := 10) (by decide) rfl rfl ha hb, runFor_succ, jump2]
    obtain ⟨m, e, h⟩ := done2 (text := text) (ls := ls) (h := q) (seen := _) (q := q) (e := q + 2) (b := 11)
    rw [e]; exact h
  · refine ⟨15, _, by omega, rfl, ?_⟩
    rw [show (15 : Nat) = 4 + 1 + 1 + 1 + 1 + 1 + 1 + 1 + 1 + 1 + 1 + 1 from rfl, runFor_succ, branch2, runFor_succ, lit_yes (c := 13) (by decide) rfl rfl hq hc, runFor_succ, lit_no (c := 10) (by decide) rfl rfl hb, runFor_succ, alt2,
      runFor_succ, lit_no (c := 10) (by decide) rfl rfl (.inr (by omega)), runFor_succ, alt3, runFor_succ, lit_yes (c := 13) (by decide) rfl rfl hq hc, runFor_succ, not2, runFor_succ, lit_no (c := 10) (by decide) rfl rfl hb, runFor_succ, unnot2, runFor_succ, jump2c]
    obtain ⟨m, e, h⟩ := done2 (text := text) (ls := ls) (h := q + 1) (seen := _) (q := q) (e := q + 1) (b := 23)
    rw [e]; exact h
end
end Mine
end

section
open PySem PySem.W PyProof.Rows PySem.Calls
/-- the walker's notes of the text before are put away -/
theorem Mine.freshRx4 {prog : Program} {w : World} {A : Around} {env : Env} {Q : Flow → Shared → Prop} {E : Value → Shared → Prop} {s : Shared} (h : Q .next s) : wpAny (model prog w) A (execs [] env) Q E s := by
  w_on
  w_top off
  k_with_none
  walk1
  exact h
end
section
open PySem PySem.Sre PySem.Builtin.Re
set_option maxRecDepth 100000
set_option linter.all false
namespace Mine
/-- what the engine finds from p on -/
def Finds (code text : Array Nat) (p : Nat) (r : Option (Nat × Nat)) : Prop :=
  ∃ k m, k ≤ 2 ^ 26 ∧ M.runFor k (forSearch code text 0 p text.size false) = m ∧ match r with
    | none => m.outcome = some .failed
    | some (b, e) => m.outcome = some .matched ∧ m.start = b ∧ m.handed = e

section
variable {text : Array Nat}
/-- where crlf's pattern stands -/
abbrev nl (text : Array Nat) (k : Nat) : Prop := text.getD k 0 = 10 ∨ text.getD k 0 = 13
theorem in2_no {k : Nat} (h : ¬ nl text k) (seen : Seen) : ∃ seen', inSet code2 (text.getD k 0) code2.size 5 true seen = .ok (false, seen') := by
  unfold nl at h
  refine ⟨((seen.add 16).add 16).add 0, (inSet2 _ seen).trans ?_⟩
  rw [if_neg (by simp only [beq_iff_eq]; omega), if_neg (by simp only [beq_iff_eq]; omega)]
theorem in2_yes {k : Nat} (h : nl text k) (seen : Seen) : ∃ seen', inSet code2 (text.getD k 0) code2.size 5 true seen = .ok (true, seen') := by
  by_cases q : text.getD k 0 = 10
  · exact ⟨_, (inSet2 _ seen).trans (if_pos (by simpa only [beq_iff_eq] using q))⟩
  · have q' : text.getD k 0 = 13 := h.resolve_left q
    exact ⟨_, (inSet2 _ seen).trans ((if_neg (by simpa only [beq_iff_eq] using q)).trans (if_pos (by simpa only [beq_iff_eq] using q')))⟩

theorem finds2_none {p : Nat} (h : ∀ k, p ≤ k → k < text.size → ¬ nl text k) : Finds code2 text p none := by
  refine ⟨2, _, by omega, rfl, ?_⟩
  show (M.runFor 2 _).outcome = _
  unfold forSearch
  dsimp only
  split
  · exact say_false rfl rfl
  · unfold M.attemptFrom
    rw [if_neg (by intro h; cases h)]
    have adm : ∀ (m : M) fuel seen r, M.admitted m fuel p seen = r → m.code = code2 → m.text = text → m.lim = text.size → ∃ seen', r = .ok (none, seen') := by
      rintro m fuel seen r rfl h1 h2 h3
      refine admitted_none m fuel p seen (fun k hp hk seen => ?_)
      rw [h1, h2]
      exact in2_no (h k hp (by rw [← h3]; exact hk)) seen
    split
    · rename_i e'
      obtain ⟨_, e⟩ := adm _ _ _ _ e' rfl rfl rfl
      exact absurd e (by simp)
    · exact say_false rfl rfl
    · rename_i e'
      obtain ⟨_, e⟩ := adm _ _ _ _ e' rfl rfl rfl
      exact absurd e (by simp)
theorem finds2_some {p q c e : Nat} (hp : p ≤ q) (hq : q < text.size) (h : ∀ k, p ≤ k → k < q → ¬ nl text k) (hc : text.getD q 0 = c)
    (h2 : c = 10 ∧ e = q + 1 ∨ c = 13 ∧ (q + 1 < text.size ∧ text.getD (q + 1) 0 = 10) ∧ e = q + 2 ∨ c = 13 ∧ (q + 1 ≥ text.size ∨ text.getD (q + 1) 0 ≠ 10) ∧ e = q + 1) : Finds code2 text p (some (q, e)) := by
  have hy : nl text q := by unfold nl; rw [hc]; rcases h2 with ⟨rfl, _⟩ | ⟨rfl, _⟩ | ⟨rfl, _⟩ <;> simp
  have key : ∃ seen, forSearch code2 text 0 p text.size false = St code2 text q text.size 10 q q true [fStart 10 q] 1 none seen none := by
    unfold forSearch
    dsimp only
    split
    · rename_i h1
      exfalso
      simp only [Bool.or_eq_true, decide_eq_true_eq] at h1
      have : (header code2).fst = 1 := rfl
      omega
    · unfold M.attemptFrom
      rw [if_neg (by intro h; cases h)]
      have adm : ∀ (m : M) fuel seen r, M.admitted m fuel p seen = r → m.code = code2 → m.text = text → m.lim = text.size → fuel = text.size + 1 - p → ∃ seen', r = .ok (some q, seen') := by
        rintro m fuel seen r rfl h1 h2 h3 h4
        refine admitted_some m (by rw [h3]; exact hq) (fun seen => by rw [h1, h2]; exact in2_yes hy seen) fuel p seen hp (by omega) (fun k hp' hk seen => ?_)
        rw [h1, h2]
        exact in2_no (h k hp' hk) seen
      split
      · rename_i e'
        obtain ⟨_, e⟩ := adm _ _ _ _ e' rfl rfl rfl rfl
        cases e
        exact ⟨_, rfl⟩
      · rename_i e'
        obtain ⟨_, e⟩ := adm _ _ _ _ e' rfl rfl rfl rfl
        exact absurd e (by simp)
      · rename_i e'
        obtain ⟨_, e⟩ := adm _ _ _ _ e' rfl rfl rfl rfl
        exact absurd e (by simp)
  obtain ⟨seen, e1⟩ := key
  obtain ⟨k, m, hk, hr⟩ := run2 (ls := text.size) (seen := seen) hq hc h2
  exact ⟨k, m, by omega, by rw [e1]; exact hr.1, hr.2⟩

/-- where dots' pattern stands -/
abbrev dl (text : Array Nat) (k : Nat) : Prop := (k = 0 ∨ text.getD (k - 1) 0 = 10) ∧ k < text.size ∧ text.getD k 0 = 46
def fS (pc q : Nat) (om : Bool) : PySem.Sre.Frame := { wait := .nextStart, pc, pos := q, outermost := om }
def S1 (text : Array Nat) (q : Nat) (om : Bool) (seen : Seen) : M := St code1 text q text.size 5 q q om [fS 5 q om] 1 none seen none
theorem at_step {q : Nat} {om : Bool} {seen : Seen} : (S1 text q om seen).step = match M.isAt (St code1 text q text.size 5 q q om [fS 5 q om] 1 none (seen.add 6) none) 1 with
    | .error why => (St code1 text q text.size 5 q q om [fS 5 q om] 1 none (seen.add 6) none).stick why
    | .ok yes => if yes then St code1 text q text.size 7 q q om [fS 5 q om] 1 none ((seen.add 6).add 44) none else (St code1 text q text.size 5 q q om [fS 5 q om] 1 none ((seen.add 6).add 44) none).say false := rfl
theorem at_is {q : Nat} {om : Bool} {fr wt seen} : M.isAt (St code1 text q text.size 5 q q om fr wt none seen none) 1 = .ok (q == 0 || text.getD (q - 1) 0 == 10) := rfl
theorem at_yes {q : Nat} {om : Bool} {seen : Seen} (h : q = 0 ∨ text.getD (q - 1) 0 = 10) : (S1 text q om seen).step = St code1 text q text.size 7 q q om [fS 5 q om] 1 none ((seen.add 6).add 44) none := by
  rw [at_step, at_is]
  have : (q == 0 || text.getD (q - 1) 0 == 10) = true := by
    rcases h with h | h
    · rw [h]; rfl
    · rw [h]; simp
  rw [this]; rfl
theorem at_no {q : Nat} {om : Bool} {seen : Seen} (h : ¬ (q = 0 ∨ text.getD (q - 1) 0 = 10)) : (S1 text q om seen).step = St code1 text q text.size 5 q q om [fS 5 q om] 1 (some false) ((seen.add 6).add 44) none := by
  rw [at_step, at_is]
  have : (q == 0 || text.getD (q - 1) 0 == 10) = false := by
    rw [not_or] at h
    rw [beq_eq_false_iff_ne.mpr h.1, beq_eq_false_iff_ne.mpr h.2]; rfl
  rw [this]; rfl
theorem next_step {q pc pos h : Nat} {om : Bool} {seen : Seen} : (St code1 text q text.size pc pos h om [fS 5 q om] 1 (some false) seen none).step =
    if q < text.size then S1 text (q + 1) false seen else (St code1 text q text.size 5 q h om [] 0 none seen none).say false := rfl
theorem fail1 {q : Nat} {om : Bool} {seen : Seen} (h : ¬ dl text q) : ∃ k seen', k ≤ 3 ∧ M.runFor k (S1 text q om seen) = if q < text.size then S1 text (q + 1) false seen' else (St code1 text q text.size 5 q q om [] 0 none seen' none).say false := by
  by_cases c1 : q = 0 ∨ text.getD (q - 1) 0 = 10
  · refine ⟨3, ((seen.add 6).add 44).add 16, by omega, ?_⟩
    have c2 : q ≥ text.size ∨ text.getD q 0 ≠ 46 := by
      unfold dl at h
      by_cases z : q < text.size
      · exact .inr fun e => h ⟨c1, z, e⟩
      · exact .inl (by omega)
    rw [runFor_succ, at_yes c1, runFor_succ, lit_no (c := 46) (by decide) rfl rfl c2, runFor_succ, next_step]
    rfl
  · refine ⟨2, (seen.add 6).add 44, by omega, ?_⟩
    rw [runFor_succ, at_no c1, runFor_succ, next_step]
    rfl
theorem hit1 {q : Nat} {om : Bool} {seen : Seen} (h : dl text q) : ∃ m, M.runFor 5 (S1 text q om seen) = m ∧ m.outcome = some .matched ∧ m.start = q ∧ m.handed = q + 1 := by
  obtain ⟨c1, c2, c3⟩ := h
  have s1 : M.runFor 5 (S1 text q om seen) = M.runFor 3 (St code1 text q text.size 9 (q + 1) q om [fS 5 q om] 1 none (((seen.add 6).add 44).add 16) none) := by
    rw [runFor_succ, at_yes c1, runFor_succ, lit_yes (c := 46) (by decide) rfl rfl c2 c3]
  cases om <;> (rw [s1, runFor_succ, runFor_succ, runFor_succ]; exact ⟨_, rfl, rfl, rfl, rfl⟩)

theorem walk1_none : ∀ (d p : Nat) (om : Bool) (seen : Seen), p + d = text.size → (∀ k, p ≤ k → ¬ dl text k) → ∃ k m, k ≤ 3 * d + 5 ∧ M.runFor k (S1 text p om seen) = m ∧ m.outcome = some .failed
  | 0, p, om, seen, hp, h => by
    obtain ⟨k, seen', hk, e⟩ := fail1 (om := om) (seen := seen) (h p (Nat.le_refl _))
    rw [if_neg (by omega)] at e
    exact ⟨k + 2, _, by omega, rfl, by rw [runFor_add, e]; exact say_false rfl rfl⟩
  | d + 1, p, om, seen, hp, h => by
    obtain ⟨k, seen', hk, e⟩ := fail1 (om := om) (seen := seen) (h p (Nat.le_refl _))
    rw [if_pos (by omega)] at e
    obtain ⟨k', m, hk', e', hm⟩ := walk1_none d (p + 1) false seen' (by omega) (fun k hk => h k (by omega))
    exact ⟨k + k', m, by omega, by rw [runFor_add, e, e'], hm⟩
theorem walk1_some {q : Nat} (hq : dl text q) : ∀ (d p : Nat) (om : Bool) (seen : Seen), p + d = q → (∀ k, p ≤ k → k < q → ¬ dl text k) → ∃ k m, k ≤ 3 * d + 5 ∧ M.runFor k (S1 text p om seen) = m ∧ m.outcome = some .matched ∧ m.start = q ∧ m.handed = q + 1
  | 0, p, om, seen, hp, h => by
    have : p = q := by omega
    subst this
    obtain ⟨m, hm⟩ := hit1 (om := om) (seen := seen) hq
    exact ⟨5, m, by omega, hm⟩
  | d + 1, p, om, seen, hp, h => by
    obtain ⟨k, seen', hk, e⟩ := fail1 (om := om) (seen := seen) (h p (Nat.le_refl _) (by omega))
    rw [if_pos (by have := hq.2.1; omega)] at e
    obtain ⟨k', m, hk', e', hm⟩ := walk1_some hq d (p + 1) false seen' (by omega) (fun k h1 h2 => h k (by omega) h2)
    exact ⟨k + k', m, by omega, by rw [runFor_add, e, e'], hm⟩
theorem search1 {p : Nat} (hp : p < text.size) : forSearch code1 text 0 p text.size false = S1 text p true (({} : Seen).add 14) := by
  unfold forSearch
  dsimp only
  split
  · rename_i h1
    exfalso
    simp only [Bool.or_eq_true, decide_eq_true_eq] at h1
    have : (header code1).fst = 1 := rfl
    omega
  · rfl
theorem finds1_none {p : Nat} (hs : text.size ≤ 2 ^ 24) (h : ∀ k, p ≤ k → ¬ dl text k) : Finds code1 text p none := by
  by_cases hp : p < text.size
  · obtain ⟨k, m, hk, e, hm⟩ := walk1_none (text := text) (text.size - p) p true (({} : Seen).add 14) (by omega) h
    exact ⟨k, m, by omega, by rw [search1 hp]; exact e, hm⟩
  · refine ⟨2, _, by omega, rfl, ?_⟩
    show (M.runFor 2 _).outcome = _
    unfold forSearch
    dsimp only
    split
    · exact say_false rfl rfl
    · rename_i h1
      exfalso
      simp only [Bool.or_eq_true, decide_eq_true_eq] at h1
      have : (header code1).fst = 1 := rfl
      omega
theorem finds1_some {p q : Nat} (hs : text.size ≤ 2 ^ 24) (hp : p ≤ q) (hq : dl text q) (h : ∀ k, p ≤ k → k < q → ¬ dl text k) : Finds code1 text p (some (q, q + 1)) := by
  have := hq.2.1
  obtain ⟨k, m, hk, e, hm⟩ := walk1_some hq (q - p) p true (({} : Seen).add 14) (by omega) h
  exact ⟨k, m, by omega, by rw [search1 (by omega)]; exact e, hm⟩
end
end Mine
end

section
open PySem PySem.W PyProof.Rows PySem.Calls
/-- the walker's notes of the text before are put away -/
theorem Mine.freshRx5 {prog : Program} {w : World} {A : Around} {env : Env} {Q : Flow → Shared → Prop} {E : Value → Shared → Prop} {s : Shared} (h : Q .next s) : wpAny (model prog w) A (execs [] env) Q E s := by
  w_on
  w_top off
  k_with_none
  walk1
  exact h
end
section
open PySem PySem.Sre PySem.Builtin.Re PySem.Calls
set_option maxRecDepth 100000
set_option linter.all false
namespace Mine
theorem plainAttrs_pat : PlainAttrs "re.Pattern" :=
  ⟨⟨"object.__getattribute__", by rw [typeLookup_type, builtinLookup_eq_fast]; kernel_rfl, by decide +kernel⟩, by rw [typeLookup_type, builtinLookup_eq_fast]; kernel_rfl⟩
theorem owner_pat : Manifest.owners.lookup (String.ofList ['n', 'r', 'e', 't', 't', 'a', 'P', '.', 'e', 'r'].reverse) = some Manifest.sig_re_Pattern := by kernel_rfl
theorem slot_search : Slot "re.Pattern" "search" "re.Pattern.search" :=
  .of (owner := "re.Pattern") (n := "search") (by rw [typeLookup_type, builtinLookup_eq_fast]; kernel_rfl) (by decide +kernel) (by decide +kernel) (by decide +kernel)
    (by first | exact .inl (by decide +kernel) | exact .inr (by decide +kernel)) (by rw [isSubtype_type]; kernel_rfl)
theorem type_search : typeOf (.builtin "re.Pattern.search") = pure (.type "method_descriptor") := by show builtinType _ = _; rw [builtinType_eq_fast]; kernel_rfl
theorem entry_search : entryFor table "re.Pattern.search" = some Builtin.«re.Pattern.search» := entryFor_of_tree (by kernel_rfl)
theorem args_search (a b : Value) : argsOk "re.Pattern.search" ⟨[a, b], []⟩ := by
  unfold argsOk; rw [signature?_of (id := "re.Pattern.search") (n := ['h', 'c', 'r', 'a', 'e', 's']) (o := ['n', 'r', 'e', 't', 't', 'a', 'P', '.', 'e', 'r']) (by kernel_rfl) owner_pat]; kernel_rfl
theorem slot_sub : Slot "re.Pattern" "sub" "re.Pattern.sub" :=
  .of (owner := "re.Pattern") (n := "sub") (by rw [typeLookup_type, builtinLookup_eq_fast]; kernel_rfl) (by decide +kernel) (by decide +kernel) (by decide +kernel)
    (by first | exact .inl (by decide +kernel) | exact .inr (by decide +kernel)) (by rw [isSubtype_type]; kernel_rfl)
theorem type_sub : typeOf (.builtin "re.Pattern.sub") = pure (.type "method_descriptor") := by show builtinType _ = _; rw [builtinType_eq_fast]; kernel_rfl
theorem entry_sub : entryFor table "re.Pattern.sub" = some Builtin.«re.Pattern.sub» := entryFor_of_tree (by kernel_rfl)
theorem args_sub (a b c : Value) : argsOk "re.Pattern.sub" ⟨[a, b, c], []⟩ := by
  unfold argsOk; rw [signature?_of (id := "re.Pattern.sub") (n := ['b', 'u', 's']) (o := ['n', 'r', 'e', 't', 't', 'a', 'P', '.', 'e', 'r']) (by kernel_rfl) owner_pat]; kernel_rfl
theorem entry_subloop : entryFor table "re.Pattern.sub.loop" = some Builtin.«re.Pattern.sub.loop» := entryFor_of_tree (by kernel_rfl)
end Mine
end

section
open PySem PySem.W PyProof.Rows PySem.Calls
/-- the walker's notes of the text before are put away -/
theorem Mine.freshRx6 {prog : Program} {w : World} {A : Around} {env : Env} {Q : Flow → Shared → Prop} {E : Value → Shared → Prop} {s : Shared} (h : Q .next s) : wpAny (model prog w) A (execs [] env) Q E s := by
  w_on
  w_top off
  k_with_none
  walk1
  exact h
end
section
open PySem PySem.Sre PySem.Builtin.Re PySem.Calls PySem.Builtin
set_option maxRecDepth 100000
set_option linter.all false
namespace Mine
/-- the pattern object at P, its words -/
structure PatAt (h : Heap) (P : Addr) (code : Array Nat) : Prop where
  ex : ∃ C pat t fl ft vals n d sl d' sl', h.get? P = some ⟨.type "re.Pattern", d, .fields #[.str pat t, .int fl ft, .int 0 0, .none, .none, .ref C, .int 0 0], sl⟩ ∧
    h.get? C = some ⟨.type "tuple", d', .seq vals n, sl'⟩ ∧ (vals.map reRawOf).map (·.toNat) = code ∧ d = none
theorem PatAt.keeps {h h' : Heap} {P : Addr} {code : Array Nat} (p : PatAt h P code) (k : ∀ b o, h.get? b = some o → h'.get? b = some o) : PatAt h' P code := by
  obtain ⟨C, pat, t, fl, ft, vals, n, d, sl, d', sl', h1, h2, h3, h4⟩ := p.ex
  exact ⟨C, pat, t, fl, ft, vals, n, d, sl, d', sl', k _ _ h1, k _ _ h2, h3, h4⟩
section
variable {prog : Program} {w : World} {A : Around} {E : Value → Shared → Prop} {s : Shared} {P : Addr} {code : Array Nat}
theorem PatAt.type (p : PatAt s.heap P code) : s.TypeIs (.ref P) "re.Pattern" := by
  obtain ⟨C, pat, t, fl, ft, vals, n, d, sl, d', sl', h1, h2, h3, h4⟩ := p.ex
  exact ⟨_, h1, rfl⟩

theorem wp_wholeTarget {x : Str} {tx : Tok} {Q : ReTarget → Shared → Prop} (p : PatAt s.heap P code)
    (hq : ∀ t : ReTarget, t.pattern = .ref P → t.string = .str x tx → t.code = code → t.text = x.cps → t.kind = 0 → t.groups = 0 → t.pos = 0 → t.lim = x.cps.size → Q t s) :
    wpAny (model prog w) A (reWholeTarget (.ref P) (.str x tx)) Q E s := by
  obtain ⟨C, pat, t, fl, ft, vals, n, d, sl, d', sl', h1, h2, h3, h4⟩ := p.ex
  unfold reWholeTarget
  refine wpAny_bind (wpAny_fieldsOf h1 rfl ?_)
  refine wpAny_bind (wpAny_pure ?_)
  dsimp only
  show wpAny _ _ (if (reRawNat _ == 0 && (0:Nat) == 1) = true then _ else _) _ _ _
  rw [if_neg (by simp)]
  show wpAny _ _ (if ((reRawNat (.int 0 0)) == 1 && (0:Nat) == 0) = true then _ else _) _ _ _
  rw [if_neg (by decide)]
  refine wpAny_bind (wpAny_pure ?_)
  show wpAny _ _ (reRawItems (.ref C) >>= _) _ _ _
  refine wpAny_bind ?_
  unfold reRawItems
  refine wpAny_bind (wpAny_seqItems h2 rfl (wpAny_pure (wpAny_pure (hq _ rfl rfl ?_ rfl rfl rfl rfl rfl))))
  exact h3

theorem wp_reTarget {x : Str} {tx : Tok} {id f : String} {Q : ReTarget → Shared → Prop} (p : PatAt s.heap P code) (hx : x.cps.size ≤ 2 ^ 24)
    (hn : reNamed id f ["string", "pos", "endpos"] 1 [.str x tx] [] = pure [some (.str x tx), none, none])
    (hq : ∀ t : ReTarget, t.pattern = .ref P → t.string = .str x tx → t.code = code → t.text = x.cps → t.kind = 0 → t.groups = 0 → t.pos = 0 → t.lim = x.cps.size → Q t s) :
    wpAny (model prog w) A (reTarget id f ⟨[.ref P, .str x tx], []⟩) Q E s := by
  obtain ⟨C, pat, t, fl, ft, vals, n, d, sl, d', sl', h1, h2, h3, h4⟩ := p.ex
  unfold reTarget
  dsimp only
  rw [hn]
  refine wpAny_bind (wpAny_pure ?_)
  dsimp only
  refine wpAny_bind (wpAny_pure ?_)
  refine wpAny_bind (wpAny_pure ?_)
  refine wpAny_bind (wpAny_fieldsOf h1 rfl ?_)
  refine wpAny_bind (wpAny_pure ?_)
  dsimp only
  show wpAny _ _ (if (reRawNat _ == 0 && (0:Nat) == 1) = true then _ else _) _ _ _
  rw [if_neg (by simp)]
  show wpAny _ _ (if ((reRawNat (.int 0 0)) == 1 && (0:Nat) == 0) = true then _ else _) _ _ _
  rw [if_neg (by decide)]
  refine wpAny_bind (wpAny_pure ?_)
  show wpAny _ _ (reRawItems (.ref C) >>= _) _ _ _
  refine wpAny_bind ?_
  unfold reRawItems
  refine wpAny_bind (wpAny_seqItems h2 rfl (wpAny_pure (wpAny_pure (hq _ rfl rfl ?_ rfl rfl rfl ?_ ?_))))
  · exact h3
  · show min (0:Int).toNat _ = 0
    simp
  · show min ((2 ^ 63 - 1 : Int)).toNat x.cps.size = x.cps.size
    rw [Nat.min_eq_right]
    have : ((2 ^ 63 - 1 : Int)).toNat = 2 ^ 63 - 1 := by decide
    omega

theorem wp_search {x : Str} {tx : Tok} {Q : Value → Shared → Prop} (p : PatAt s.heap P code) (hc : code = codeN ∨ code = codeV) (hx : x.cps.size ≤ 2 ^ 24) (ht : ∀ k, k < x.cps.size → clean (x.cps.getD k 0)) (hQ : Q .none s) :
    wpAny (model prog w) A (call (.builtin "re.Pattern.search") [.ref P, .str x tx]) Q E s := by
  refine call_meets (S := fun _ R s' => PatAt s'.heap P code ∧ R (.ok (.ret .none)) s') slot_search p.type entry_search (args_search _ _) (Meets.of_wp ?_) ⟨p, hQ⟩
  rintro prog w A R s ⟨p, hR⟩
  unfold Builtin.«re.Pattern.search»
  refine wpAny_bind (wp_reTarget p hx (by with_unfolding_all rfl) ?_)
  intro t h1 h2 h3 h4 h5 h6 h7 h8
  unfold reAnswer
  rw [h3, h4, h6, h7, h8]
  refine wpAny_bind (wp_reRun 2 (search_none hc ht 0) (by omega) ?_)
  exact wpAny_pure ⟨_, rfl, hR⟩
end
end Mine
end

section
open PySem PySem.W PyProof.Rows PySem.Calls
/-- the walker's notes of the text before are put away -/
theorem Mine.freshRx7 {prog : Program} {w : World} {A : Around} {env : Env} {Q : Flow → Shared → Prop} {E : Value → Shared → Prop} {s : Shared} (h : Q .next s) : wpAny (model prog w) A (execs [] env) Q E s := by
  w_on
  w_top off
  k_with_none
  walk1
  exact h
end
section
open PySem PySem.Sre PySem.Builtin.Re PySem.Calls PySem.Builtin
set_option maxRecDepth 100000
set_option linter.all false
namespace Mine
def Kept (h h' : Heap) : Prop := ∀ b o, h.get? b = some o → h'.get? b = some o
theorem Kept.refl (h : Heap) : Kept h h := fun _ _ e => e
theorem Kept.trans {h h' h'' : Heap} (a : Kept h h') (b : Kept h' h'') : Kept h h'' := fun _ _ e => b _ _ (a _ _ e)
theorem Kept.push (h : Heap) (o : Obj) : Kept h (h.push o) := fun _ _ e => Heap.get?_push_of_some _ e
/-- the pieces' text -/
def codes (l : List (Str × Tok)) : List Nat := l.flatMap fun p => p.1.cps.toList
theorem join_codes : ∀ l : List Str, (Str.join ⟨#[]⟩ l).cps.toList = l.flatMap fun p => p.cps.toList
  | [] => rfl
  | [x] => by simp [Str.join]
  | x :: y :: r => by
    have ih := join_codes (y :: r)
    show (x.cps ++ #[] ++ (Str.join ⟨#[]⟩ (y :: r)).cps).toList = _
    rw [List.flatMap_cons, ← ih]
    simp
theorem codes_sum : ∀ l : List (Str × Tok), ((l.map (·.1)).map (·.length)).sum = (codes l).length
  | [] => rfl
  | x :: r => by
    simp only [codes, List.map_cons, List.sum_cons, List.flatMap_cons, List.length_append]
    have := codes_sum r
    simp only [codes] at this
    rw [this]; simp [Str.length]

/-- what a sub makes from p on -/
inductive Subs (code : Array Nat) (x r : Str) : Nat → List Nat → Prop where
  | last {p : Nat} (hp : p ≤ x.cps.size) (h : Finds code x.cps p none) : Subs code x r p (x.cps.extract p x.cps.size).toList
  | next {p q e : Nat} {l : List Nat} (hp : p ≤ q) (hq : q < e) (he : e ≤ x.cps.size) (h : Finds code x.cps p (some (q, e))) (t : Subs code x r e l) : Subs code x r p ((x.cps.extract p q).toList ++ (r.cps.toList ++ l))

section
variable {prog : Program} {w : World} {A : Around} {E : Value → Shared → Prop} {s : Shared} {P : Addr} {code : Array Nat}
theorem wp_found {t : ReTarget} {x : Str} {p : Nat} {o : Option (Nat × Nat)} {Q : Option M → Shared → Prop} (hc : t.code = code) (ht : t.text = x.cps) (hg : t.groups = 0) (hl : t.lim = x.cps.size) (f : Finds code x.cps p o)
    (h : match o with | none => Q none s | some (b, e) => ∀ m : M, m.start = b → m.handed = e → Q (some m) s) : wpAny (model prog w) A (reNextFound t p false) Q E s := by
  obtain ⟨k, m, hk, hr, hm⟩ := f
  unfold reNextFound
  rw [hc, ht, hg, hl]
  subst hr
  cases o with
  | none => exact wp_reRun k hm hk h
  | some be => exact wp_reRun k hm.1 hk (h _ hm.2.1 hm.2.2)

theorem wp_reSlice {x : Str} {b e : Nat} {Q : Value → Shared → Prop} (hx : x.cps.size ≤ 2 ^ 20) (h : Q (.str ⟨x.cps.extract b e⟩ s.toks) { s with toks := s.toks + 1 }) : wpAny (model prog w) A (reSlice x.cps 0 b e) Q E s := by
  show wpAny _ _ (mkStr ⟨x.cps.extract b e⟩) _ _ _
  refine wpAny_mkStr h ?_
  show (x.cps.extract b e).size ≤ sizeLine
  rw [sizeLine_eq, Array.size_extract]
  omega

theorem wp_push {D : Addr} {l : List (Str × Tok)} {n : Nat} {y : Str} {u : Tok} {Q : Unit → Shared → Prop} (hD : s.heap.get? D = some ⟨.type "list", none, .seq (strValues l).toArray n, #[]⟩) (hl : l.length ≤ 2 ^ 23)
    (h : ∀ h', h'.get? D = some ⟨.type "list", none, .seq (strValues (l ++ [(y, u)])).toArray (n + 1), #[]⟩ → (∀ b, b ≠ D → h'.get? b = s.heap.get? b) → Q () { s with heap := h' }) :
    wpAny (model prog w) A (updateSeq D (·.push (.str y u))) Q E s := by
  have hsz : (strValues l).toArray.size = l.length := by simp [strValues]
  refine wpAny_updateSeq hD rfl (h _ ?_ ?_) (by rw [hsz, sizeLine_eq]; omega) (by rw [Array.size_push, hsz, sizeLine_eq]; omega)
  · rw [Heap.get?_update_self _ hD rfl]
    have : ((strValues l).toArray.push (.str y u)) = (strValues (l ++ [(y, u)])).toArray := by simp [strValues]
    simp only [Obj.mapSeq, this]
    have hne : ¬ ((strValues (l ++ [(y, u)])).toArray.size == (strValues l).toArray.size) = true := by simp [strValues]
    rw [if_neg hne]
  · intro b hb
    exact Heap.get?_update_ne _ _ _ _ hb

theorem wp_finish {A' : Around} {x : Str} {D : Addr} {n : Nat} {c : Int} {l : List (Str × Tok)} {R : Result → Shared → Prop} (hx : x.cps.size ≤ 2 ^ 20) (hD : s.heap.get? D = some ⟨.type "list", none, .seq (strValues l).toArray n, #[]⟩)
    (hc : (codes l).length ≤ 2 ^ 22) (hR : ∀ tk t, R (.ok (.ret (.str ⟨(codes l).toArray⟩ t))) { s with toks := tk }) :
    wpAny (model prog w) A (do
      let joiner ← reSlice x.cps 0 0 0
      let __do_lift ← seqItems? (Value.ref D)
      if (__do_lift.getD #[]).isEmpty = true then do
          let text ← pure joiner
          if false = true then do
              let __do_lift ←
                holding [text] do
                    let __do_lift ← mkInt c
                    newTuple [text, __do_lift]
              ret __do_lift
            else ret text
        else do
          let text ← call (Value.builtin (if ((0:Nat) == 0) = true then "str.join" else "bytes.join")) [joiner, Value.ref D]
          if false = true then do
              let __do_lift ←
                holding [text] do
                    let __do_lift ← mkInt c
                    newTuple [text, __do_lift]
              ret __do_lift
            else ret text)
    (fun fin s' => match fin with | .done f => R (.ok f) s' | .again c' => c'.quiet = true ∧ codeAny (model prog w) A' c' R s') (fun e s' => R (.error e) s') s := by
  refine wpAny_bind (wp_reSlice hx ?_)
  refine wpAny_bind (wpAny_seqItems hD rfl ?_)
  have e0 : (⟨x.cps.extract 0 0⟩ : Str) = ⟨#[]⟩ := by simp
  by_cases hl : l = []
  · subst hl
    rw [if_pos (show ((some (strValues ([] : List (Str × Tok))).toArray).getD #[]).isEmpty = true from rfl)]
    refine wpAny_bind (wpAny_pure ?_)
    rw [if_neg (by simp)]
    rw [e0]
    exact wpAny_pure (hR _ _)
  · rw [if_neg (by simp [strValues, hl])]
    refine wpAny_bind ?_
    refine SC.join (D := D) (l := l) ⟨_, hD, rfl, n, rfl⟩ rfl ?_ ?_
    · rw [e0]
      refine PyProof.Rows.joinOk_of ?_
      rw [codes_sum]
      have : (⟨#[]⟩ : Str).length = 0 := rfl
      rw [this]
      omega
    · intro t' k
      rw [if_neg (by simp)]
      have : Txt.join ⟨x.cps.extract 0 0⟩ (l.map (·.1)) = ⟨(codes l).toArray⟩ := by
        rw [e0]
        show PySem.Builtin.Str.glued _ _ = _
        rw [StrLaws.glued_eq_join]
        have := join_codes (l.map (·.1))
        rw [List.flatMap_map] at this
        unfold codes
        rw [← this]
      rw [this]
      exact wpAny_pure (hR _ _)

theorem codes_snoc (l : List (Str × Tok)) (y : Str) (u : Tok) : codes (l ++ [(y, u)]) = codes l ++ y.cps.toList := by simp [codes]

theorem wp_subloop {x r : Str} {tx tr : Tok} {D : Addr} {R : Result → Shared → Prop} (hx : x.cps.size ≤ 2 ^ 20) (hr : r.cps.size ≤ 2) {p : Nat} {tail : List Nat} (sb : Subs code x r p tail) :
    ∀ {s : Shared} {l : List (Str × Tok)} {n c : Nat} {A : Around}, PatAt s.heap P code → (∀ h', (∀ b o, b ≠ D → s.heap.get? b = some o → h'.get? b = some o) → PatAt h' P code) → s.heap.get? D = some ⟨.type "list", none, .seq (strValues l).toArray n, #[]⟩ → l.length ≤ 2 * p → (codes l).length ≤ 3 * p →
    (∀ h' tk t, (∀ b o, b ≠ D → s.heap.get? b = some o → h'.get? b = some o) → R (.ok (.ret (.str ⟨(codes l ++ tail).toArray⟩ t))) { s with heap := h', toks := tk }) →
    codeAny (model prog w) A (.builtin "re.Pattern.sub.loop" ⟨[.ref P, .str x tx, .str r tr, rawInt 0, rawInt 0, rawInt c, rawInt p, rawInt p, .bool false, .ref D, .bool false], []⟩) R s := by
  induction sb with
  | last hp f =>
    rename_i p
    intro s l n c A pt ptk hD hl1 hl2 hR
    refine codeAny_builtin entry_subloop ?_
    unfold Builtin.«re.Pattern.sub.loop»
    dsimp only [rawInt]
    refine wpAny_bind (wp_wholeTarget pt ?_)
    intro t h1 h2 h3 h4 h5 h6 h7 h8
    rw [if_pos (by decide)]
    rw [show reLiteralCannotBeTurned (.str r tr) = pure () from rfl]
    refine wpAny_bind (wpAny_pure ?_)
    rw [if_neg (by simp), Int.toNat_natCast]
    refine wpAny_bind (wp_found (p := p) h3 h4 h6 h8 f ?_)
    dsimp only
    rw [h4, h5, h8]
    by_cases hlt : p < x.cps.size
    · rw [if_pos hlt]
      refine wpAny_bind (wp_reSlice hx ?_)
      refine wpAny_bind (wp_push hD (by omega) ?_)
      intro h' hD' hk
      refine wp_finish hx hD' ?_ ?_
      · rw [codes_snoc, List.length_append]
        simp only [Array.length_toList, Array.size_extract]
        omega
      · intro tk t
        rw [codes_snoc]
        exact hR h' tk t (fun b o hb e => (hk b hb).trans e)
    · rw [if_neg hlt]
      refine wp_finish hx hD (by omega) ?_
      intro tk t
      have e : codes l ++ (x.cps.extract p x.cps.size).toList = codes l := by
        have : x.cps.extract p x.cps.size = #[] := by
          apply Array.eq_empty_of_size_eq_zero
          rw [Array.size_extract]; omega
        rw [this]; simp
      have := hR s.heap tk t (fun b o _ e => e)
      rw [e] at this
      exact this
  | next hp hq he f tl ih =>
    rename_i p q e l'
    intro s l n c A pt ptk hD hl1 hl2 hR
    refine codeAny_builtin entry_subloop ?_
    unfold Builtin.«re.Pattern.sub.loop»
    dsimp only [rawInt]
    refine wpAny_bind (wp_wholeTarget pt ?_)
    intro t h1 h2 h3 h4 h5 h6 h7 h8
    rw [if_pos (by decide)]
    rw [show reLiteralCannotBeTurned (.str r tr) = pure () from rfl]
    refine wpAny_bind (wpAny_pure ?_)
    rw [if_neg (by simp), Int.toNat_natCast]
    refine wpAny_bind (wp_found (p := p) h3 h4 h6 h8 f ?_)
    intro m hm1 hm2
    dsimp only
    rw [h4, h5, hm1, hm2]
    have hb : (e == q) = false := by simp; omega
    by_cases hlt : p < q
    · rw [if_pos hlt]
      refine wpAny_bind (wp_reSlice hx ?_)
      refine wpAny_bind (wp_push hD (by omega) ?_)
      intro h' hD' hk
      rw [if_pos (by decide)]
      refine wpAny_bind (wpAny_pure ?_)
      rw [if_pos (show (Value.str r tr != Value.none) = true from rfl)]
      refine wpAny_bind (wp_push hD' (by simp only [List.length_append, List.length_cons, List.length_nil]; omega) ?_)
      intro h'' hD'' hk'
      refine wpAny_pure ⟨plainId_quiet (by decide +kernel) _, ?_⟩
      rw [hb]
      have kk : ∀ b o, b ≠ D → s.heap.get? b = some o → h''.get? b = some o := fun b o hb e => (hk' b hb).trans ((hk b hb).trans e)
      refine ih (c := c + 1) (ptk _ kk) (fun h3 k3 => ptk _ (fun b o hb e => k3 b o hb (kk b o hb e))) hD'' (by simp only [List.length_append, List.length_cons, List.length_nil]; omega) ?_ ?_
      · rw [codes_snoc, codes_snoc, List.length_append, List.length_append]
        simp only [Array.length_toList, Array.size_extract]
        omega
      · intro h3 tk t k3
        rw [codes_snoc, codes_snoc]
        have := hR h3 tk t (fun b o hb e => k3 b o hb (kk b o hb e))
        simpa only [List.append_assoc] using this
    · rw [if_neg hlt]
      rw [if_pos (by decide)]
      refine wpAny_bind (wpAny_pure ?_)
      rw [if_pos (show (Value.str r tr != Value.none) = true from rfl)]
      refine wpAny_bind (wp_push hD (by omega) ?_)
      intro h'' hD'' hk'
      refine wpAny_pure ⟨plainId_quiet (by decide +kernel) _, ?_⟩
      rw [hb]
      have kk : ∀ b o, b ≠ D → s.heap.get? b = some o → h''.get? b = some o := fun b o hb e => (hk' b hb).trans e
      refine ih (c := c + 1) (ptk _ kk) (fun h3 k3 => ptk _ (fun b o hb e => k3 b o hb (kk b o hb e))) hD'' (by simp only [List.length_append, List.length_cons, List.length_nil]; omega) ?_ ?_
      · rw [codes_snoc, List.length_append]
        simp only [Array.length_toList, Array.size_extract]
        omega
      · intro h3 tk t k3
        rw [codes_snoc]
        have e : (x.cps.extract p q).toList = [] := by
          have : x.cps.extract p q = #[] := by
            apply Array.eq_empty_of_size_eq_zero
            rw [Array.size_extract]; omega
          rw [this]
        have := hR h3 tk t (fun b o hb e => k3 b o hb (kk b o hb e))
        rw [e] at this
        simpa only [List.append_assoc, List.nil_append] using this
end
end Mine
end

section
open PySem PySem.W PyProof.Rows PySem.Calls
/-- the walker's notes of the text before are put away -/
theorem Mine.freshRx8 {prog : Program} {w : World} {A : Around} {env : Env} {Q : Flow → Shared → Prop} {E : Value → Shared → Prop} {s : Shared} (h : Q .next s) : wpAny (model prog w) A (execs [] env) Q E s := by
  w_on
  w_top off
  k_with_none
  walk1
  exact h
end
section
open PySem PySem.Sre PySem.Builtin.Re PySem.Calls PySem.Builtin
set_option maxRecDepth 100000
set_option linter.all false
namespace Mine
theorem str_no_call : typeLookup (.type "str") "__call__" = pure none := by rw [typeLookup_type, builtinLookup_eq_fast]; kernel_rfl
section
variable {prog : Program} {w : World} {A : Around} {E : Value → Shared → Prop} {s : Shared} {P : Addr} {code : Array Nat}
theorem wp_sub {x r : Str} {tx tr : Tok} {tail : List Nat} {Q : Value → Shared → Prop} (pt : PatAt s.heap P code) (hx : x.cps.size ≤ 2 ^ 20) (hr : r.cps.size ≤ 2) (hb : r.cps.contains 92 = false) (sb : Subs code x r 0 tail)
    (hQ : ∀ h' tk t, Kept s.heap h' → Q (.str ⟨tail.toArray⟩ t) { s with heap := h', toks := tk }) :
    wpAny (model prog w) A (call (.builtin "re.Pattern.sub") [.ref P, .str r tr, .str x tx]) Q E s := by
  refine call_meets (S := fun A R s => PatAt s.heap P code ∧ ∀ h' tk t, Kept s.heap h' → R (.ok (.ret (.str ⟨tail.toArray⟩ t))) { s with heap := h', toks := tk }) slot_sub pt.type entry_sub (args_sub _ _ _) ?_ ⟨pt, hQ⟩
  rintro prog w A R s ⟨pt, hR⟩
  show wpAny _ _ (reSubstitute "re.Pattern.sub" "sub" false ⟨[.ref P, .str r tr, .str x tx], []⟩) _ _ _
  unfold reSubstitute
  dsimp only
  rw [show reNamed "re.Pattern.sub" "sub" ["repl", "string", "count"] 2 [.str r tr, .str x tx] [] = pure [some (.str r tr), some (.str x tx), none] from by with_unfolding_all rfl]
  refine wpAny_bind (wpAny_pure ?_)
  refine wpAny_bind (wpAny_pure ?_)
  rw [show specialOf (.str r tr) "__call__" = typeLookup (.type "str") "__call__" from rfl, str_no_call]
  refine wpAny_bind (wpAny_pure ?_)
  rw [show (none : Option Value).isSome = false from rfl, if_neg (by simp)]
  rw [show asStr? (.str r tr) = pure (some r) from rfl]
  refine wpAny_bind (wpAny_pure ?_)
  show wpAny _ _ (pure (!r.cps.contains 92) >>= _) _ _ _
  rw [hb]
  refine wpAny_bind (wpAny_pure ?_)
  rw [if_neg (by simp), if_pos (by simp)]
  refine wpAny_bind (wpAny_pure ?_)
  dsimp only
  refine wpAny_bind (wpAny_holding (wp_wholeTarget pt ?_))
  intro t _ _ _ _ _ _ _ _
  rw [if_neg (by decide)]
  refine wpAny_bind (wpAny_newList ?_)
  refine wpAny_pure ⟨plainId_quiet (by decide +kernel) _, ?_⟩
  have hne : ∀ b o, s.heap.get? b = some o → b ≠ s.heap.objs.size := fun b o e => Nat.ne_of_lt (Heap.lt_size e)
  have hp : Kept s.heap (s.heap.push { cls := .type "list", data := .seq ([] : List Value).toArray }) := Kept.push _ _
  refine wp_subloop (w := w) (D := s.heap.objs.size) (l := []) (n := 0) (c := 0) hx hr sb (pt.keeps hp) ?_ (Heap.get?_push_size _ rfl) (Nat.zero_le _) (Nat.zero_le _) ?_
  · exact fun h' k => pt.keeps fun b o e => k b o (hne b o e) (hp b o e)
  · intro h' tk t k
    exact hR h' tk t fun b o e => k b o (hne b o e) (hp b o e)
end

/-! the two patterns on lists of codes -/
def crlf : List Nat → List Nat
  | [] => []
  | 13 :: 10 :: r => 13 :: 10 :: crlf r
  | 13 :: r => 13 :: 10 :: crlf r
  | 10 :: r => 13 :: 10 :: crlf r
  | c :: r => c :: crlf r
def dots : Bool → List Nat → List Nat
  | _, [] => []
  | b, c :: r => if b && c == 46 then 46 :: 46 :: dots false r else c :: dots (c == 10) r
end Mine
end

section
open PySem PySem.W PyProof.Rows PySem.Calls
/-- the walker's notes of the text before are put away -/
theorem Mine.freshRx9 {prog : Program} {w : World} {A : Around} {env : Env} {Q : Flow → Shared → Prop} {E : Value → Shared → Prop} {s : Shared} (h : Q .next s) : wpAny (model prog w) A (execs [] env) Q E s := by
  w_on
  w_top off
  k_with_none
  walk1
  exact h
end
section
open PySem PySem.Sre PySem.Builtin.Re PySem.Calls PySem.Builtin
set_option maxRecDepth 100000
set_option linter.all false
namespace Mine
theorem first_or_none (P : Nat → Prop) [DecidablePred P] : ∀ (d p n : Nat), p + d = n → (∀ k, p ≤ k → k < n → ¬ P k) ∨ ∃ q, p ≤ q ∧ q < n ∧ P q ∧ ∀ k, p ≤ k → k < q → ¬ P k
  | 0, p, n, h => .inl fun k h1 h2 => by omega
  | d + 1, p, n, h => by
    by_cases hp : P p
    · exact .inr ⟨p, Nat.le_refl _, by omega, hp, fun k h1 h2 => by omega⟩
    · rcases first_or_none P d (p + 1) n (by omega) with g | ⟨q, h1, h2, h3, h4⟩
      · refine .inl fun k h1 h2 => ?_
        by_cases e : k = p
        · subst e; exact hp
        · exact g k (by omega) h2
      · refine .inr ⟨q, by omega, h2, h3, fun k g1 g2 => ?_⟩
        by_cases e : k = p
        · subst e; exact hp
        · exact h4 k (by omega) g2
section
variable {a : Array Nat}
theorem drop_cons {q : Nat} (h : q < a.size) : a.toList.drop q = a.getD q 0 :: a.toList.drop (q + 1) := by
  rw [List.drop_eq_getElem_cons (by simpa using h)]
  simp [Array.getD, h]
theorem drop_split {p q : Nat} (h : p ≤ q) (hq : q ≤ a.size) : a.toList.drop p = (a.extract p q).toList ++ a.toList.drop q := by
  rw [Array.toList_extract]
  have e : a.toList.extract p q = (a.toList.drop p).take (q - p) := by simp [List.extract_eq_take_drop]
  rw [e]
  have : a.toList.drop q = (a.toList.drop p).drop (q - p) := by rw [List.drop_drop]; congr 1; omega
  rw [this, List.take_append_drop]
theorem mem_extract {p q c : Nat} (hq : q ≤ a.size) (h : c ∈ (a.extract p q).toList) : ∃ k, p ≤ k ∧ k < q ∧ a.getD k 0 = c := by
  obtain ⟨i, hi, e⟩ := List.getElem_of_mem h
  have hi' : i < q - p := by
    have h2 : i < min (q - p) (a.size - p) := by simpa using hi
    omega
  refine ⟨p + i, by omega, by omega, ?_⟩
  rw [← e]
  have : p + i < a.size := by omega
  simp [Array.getD, this]
end
theorem crlf_pre : ∀ {pre rest : List Nat}, (∀ c ∈ pre, c ≠ 10 ∧ c ≠ 13) → crlf (pre ++ rest) = pre ++ crlf rest
  | [], _, _ => rfl
  | c :: pre, rest, h => by
    have hc := h c (.head _)
    have ih := crlf_pre (pre := pre) (rest := rest) fun c hm => h c (.tail _ hm)
    rw [List.cons_append, List.cons_append, ← ih]
    rw [crlf]
    · exact fun r e _ => hc.2 e
    · exact fun e => hc.2 e
    · exact fun e => hc.1 e
theorem crlf_nil_pre {pre : List Nat} (h : ∀ c ∈ pre, c ≠ 10 ∧ c ≠ 13) : crlf pre = pre := by
  have := crlf_pre (rest := []) h
  simpa [crlf] using this
theorem crlf_13 {r : List Nat} (h : ∀ r', r ≠ 10 :: r') : crlf (13 :: r) = 13 :: 10 :: crlf r := by
  rw [crlf]
  exact h

def rn : Str := ⟨#[13, 10]⟩
def dd : Str := ⟨#[46, 46]⟩
theorem subs_crlf (x : Str) : ∀ (d p : Nat), p + d = x.cps.size → Subs code2 x rn p (crlf (x.cps.toList.drop p)) := by
  intro d
  induction d using Nat.strongRecOn with
  | ind d ih =>
    intro p hp
    rcases first_or_none (nl x.cps) d p x.cps.size hp with g | ⟨q, h1, h2, h3, h4⟩
    · have e : x.cps.toList.drop p = (x.cps.extract p x.cps.size).toList := by
        rw [drop_split (q := x.cps.size) (by omega) (Nat.le_refl _)]; simp
      rw [e, crlf_nil_pre]
      · exact .last (by omega) (finds2_none g)
      · intro c hc
        obtain ⟨k, k1, k2, rfl⟩ := mem_extract (Nat.le_refl _) hc
        have := g k k1 k2
        unfold nl at this
        exact ⟨fun e => this (.inl e), fun e => this (.inr e)⟩
    · have hpre : ∀ c ∈ (x.cps.extract p q).toList, c ≠ 10 ∧ c ≠ 13 := by
        intro c hc
        obtain ⟨k, k1, k2, rfl⟩ := mem_extract (by omega) hc
        have := h4 k k1 k2
        unfold nl at this
        exact ⟨fun e => this (.inl e), fun e => this (.inr e)⟩
      rw [drop_split h1 (by omega), crlf_pre hpre, drop_cons h2]
      have go : ∀ e, q < e → e ≤ x.cps.size → Finds code2 x.cps p (some (q, e)) → crlf (x.cps.getD q 0 :: x.cps.toList.drop (q + 1)) = 13 :: 10 :: crlf (x.cps.toList.drop e) →
          Subs code2 x rn p ((x.cps.extract p q).toList ++ crlf (x.cps.getD q 0 :: x.cps.toList.drop (q + 1))) := by
        intro e e1 e2 f eq
        rw [eq]
        exact .next h1 e1 e2 f (ih (x.cps.size - e) (by omega) e (by omega))
      rcases h3 with hc | hc
      · refine go (q + 1) (by omega) (by omega) (finds2_some h1 h2 h4 hc (.inl ⟨rfl, rfl⟩)) ?_
        rw [hc]; rfl
      · by_cases hn : q + 1 < x.cps.size ∧ x.cps.getD (q + 1) 0 = 10
        · refine go (q + 2) (by omega) (by omega) (finds2_some h1 h2 h4 hc (.inr (.inl ⟨rfl, hn, rfl⟩))) ?_
          rw [hc, drop_cons hn.1, hn.2]; rfl
        · refine go (q + 1) (by omega) (by omega) (finds2_some h1 h2 h4 hc (.inr (.inr ⟨rfl, ?_, rfl⟩))) ?_
          · by_cases z : q + 1 < x.cps.size
            · exact .inr fun e => hn ⟨z, e⟩
            · exact .inl (by omega)
          · rw [hc]
            refine crlf_13 fun r' e => ?_
            by_cases z : q + 1 < x.cps.size
            · rw [drop_cons z] at e
              exact hn ⟨z, (List.cons.inj e).1⟩
            · rw [List.drop_eq_nil_of_le (by simpa using z)] at e
              cases e

/-- is the place a row's first -/
def atRow (a : Array Nat) (p : Nat) : Bool := p == 0 || a.getD (p - 1) 0 == 10
theorem dots_nil (b : Bool) : dots b [] = [] := by cases b <;> rfl
theorem dots_cons (b : Bool) (c : Nat) (r : List Nat) : dots b (c :: r) = if (b && c == 46) = true then 46 :: 46 :: dots false r else c :: dots (c == 10) r := by cases b <;> rfl
theorem dots_skip (x : Str) : ∀ (d p q : Nat), p + d = q → q ≤ x.cps.size → (∀ k, p ≤ k → k < q → ¬ dl x.cps k) → dots (atRow x.cps p) (x.cps.toList.drop p) = (x.cps.extract p q).toList ++ dots (atRow x.cps q) (x.cps.toList.drop q)
  | 0, p, q, h, _, _ => by
    have : p = q := by omega
    subst this
    simp
  | d + 1, p, q, h, hq, hn => by
    have ih := dots_skip x d (p + 1) q (by omega) hq fun k k1 k2 => hn k (by omega) k2
    have hp : p < x.cps.size := by omega
    rw [drop_cons hp, dots_cons]
    have hno : ¬ (atRow x.cps p && x.cps.getD p 0 == 46) = true := by
      intro e
      refine hn p (Nat.le_refl _) (by omega) ⟨?_, hp, ?_⟩
      · have := (Bool.and_eq_true _ _ ▸ e).1
        unfold atRow at this
        simpa using this
      · have := (Bool.and_eq_true _ _ ▸ e).2
        simpa using this
    rw [if_neg hno]
    have ha : (x.cps.getD p 0 == 10) = atRow x.cps (p + 1) := by
      unfold atRow
      simp
    rw [ha, ih]
    have e1 : (x.cps.extract p q).toList = x.cps.getD p 0 :: (x.cps.extract (p + 1) q).toList := by
      have a1 := drop_split (a := x.cps) (p := p) (q := q) (by omega) hq
      have a2 := drop_split (a := x.cps) (p := p + 1) (q := q) (by omega) hq
      rw [drop_cons hp, a2, ← List.cons_append] at a1
      exact (List.append_cancel_right a1).symm
    rw [e1]; rfl
theorem subs_dots (x : Str) (hs : x.cps.size ≤ 2 ^ 24) : ∀ (d p : Nat), p + d = x.cps.size → Subs code1 x dd p (dots (atRow x.cps p) (x.cps.toList.drop p)) := by
  intro d
  induction d using Nat.strongRecOn with
  | ind d ih =>
    intro p hp
    rcases first_or_none (dl x.cps) d p x.cps.size hp with g | ⟨q, h1, h2, h3, h4⟩
    · rw [dots_skip x d p x.cps.size hp (Nat.le_refl _) g, List.drop_eq_nil_of_le (by simp), dots_nil, List.append_nil]
      refine .last (by omega) (finds1_none hs fun k hk => ?_)
      by_cases z : k < x.cps.size
      · exact g k hk z
      · exact fun y => z y.2.1
    · rw [dots_skip x (q - p) p q (by omega) (by omega) h4, drop_cons h2, dots_cons]
      obtain ⟨c1, c2, c3⟩ := h3
      have hr : atRow x.cps q = true := by unfold atRow; simpa using c1
      rw [hr, c3, if_pos (by decide)]
      have e : (false : Bool) = atRow x.cps (q + 1) := by
        unfold atRow
        rw [show q + 1 - 1 = q from rfl, c3]; simp
      rw [e]
      exact .next h1 (by omega) (by omega) (finds1_some hs h1 ⟨c1, c2, c3⟩ h4) (ih (x.cps.size - (q + 1)) (by omega) (q + 1) (by omega))
end Mine
end

section
open PySem PySem.W PyProof.Rows PySem.Calls
/-- the walker's notes of the text before are put away -/
theorem Mine.freshC1 {prog : Program} {w : World} {A : Around} {env : Env} {Q : Flow → Shared → Prop} {E : Value → Shared → Prop} {s : Shared} (h : Q .next s) : wpAny (model prog w) A (execs [] env) Q E s := by
  w_on
  w_top off
  k_with_none
  walk1
  exact h
end
section
open PySem PySem.W PyProof.Rows PySem.Calls
set_option maxRecDepth 100000
set_option maxHeartbeats 8000000
set_option linter.all false
namespace Mine
/-- a text that a header may be -/
def CleanS (x : Str) : Prop := x.cps.size ≤ 2 ^ 16 ∧ ∀ k, k < x.cps.size → clean (x.cps.getD k 0)
section
variable {prog : Program} {w : World} {A : Around} {E : Value → Shared → Prop} {s : Shared} {h₀ h : Heap} {L P : Addr} {m : Str → Option Value} {K : Frag}
theorem pat_of {P C : Addr} {pat : Str} {t : Tok} {fl : Int} {ft : Tok} {vals : Array Value} {n : Nat} {sl sl' : Array (Option Value)} {d' : Option Addr} {code : Array Nat} (X : K.In h)
    (h1 : K.lookup P = some ⟨.type "re.Pattern", none, .fields #[.str pat t, .int fl ft, .int 0 0, .none, .none, .ref C, .int 0 0], sl⟩)
    (h2 : K.lookup C = some ⟨.type "tuple", d', .seq vals n, sl'⟩) (h3 : (vals.map Builtin.Re.reRawOf).map (·.toNat) = code) : PatAt h P code :=
  ⟨⟨C, pat, t, fl, ft, vals, n, none, sl, d', sl', X _ _ h1, X _ _ h2, h3, rfl⟩⟩
theorem k_pat_method {name : Str} {id : String} {pl : Sem Bool} {Q : Value × List Value → Shared → Prop} {code : Array Nat} (F : Fr h₀ L s.heap m) (p : PatAt h₀ P code) (slot : Slot "re.Pattern" name id) (hty : typeOf (.builtin id) = pure (.type "method_descriptor"))
    (h : Q (.builtin id, [.ref P]) s) : wpAny (model prog w) A (getMethod (.ref P) name pl) Q E s := by
  have p' := p.keeps F.keep
  refine getMethod_builtin p'.type plainAttrs_pat slot hty (fun a e => ?_) h
  cases e
  obtain ⟨C, pat, t, fl, ft, vals, n, d, sl, d', sl', h1, h2, h3, h4⟩ := p'.ex
  exact ⟨_, h1, h4⟩
theorem k_search {x : Str} {tx : Tok} {Q : Value → Shared → Prop} {code : Array Nat} (F : Fr h₀ L s.heap m) (p : PatAt h₀ P code) (hc : code = codeN ∨ code = codeV) (hx : CleanS x) (hQ : Q .none s) :
    wpAny (model prog w) A (call (.builtin "re.Pattern.search") [.ref P, .str x tx]) Q E s :=
  wp_search (p.keeps F.keep) hc (by have := hx.1; omega) hx.2 hQ
end
structure Pats (h : Heap) : Prop where
  p43 : PatAt h 43 code1
  p48 : PatAt h 48 code2
  p74 : PatAt h 74 codeN
  p79 : PatAt h 79 codeV
theorem pats (w : World) (h : Heap) : PySem.Challenge.rw_st0018_01.Holds = PySem.Challenge.rw_st0018_01.Holds → (Mine.hd.heap_39 w.params).In h → Pats h := by
  k_fill
  intro _ X
  exact ⟨pat_of X (by k_is) (by k_is) (by decide +kernel), pat_of X (by k_is) (by k_is) (by decide +kernel), pat_of X (by k_is) (by k_is) (by decide +kernel), pat_of X (by k_is) (by k_is) (by decide +kernel)⟩
end Mine
end

section
open PySem PySem.W PyProof.Rows PySem.Calls
/-- the walker's notes of the text before are put away -/
theorem Mine.freshC2 {prog : Program} {w : World} {A : Around} {env : Env} {Q : Flow → Shared → Prop} {E : Value → Shared → Prop} {s : Shared} (h : Q .next s) : wpAny (model prog w) A (execs [] env) Q E s := by
  w_on
  w_top off
  k_with_none
  walk1
  exact h
end
section
open PySem PySem.W PyProof.Rows PySem.Calls
set_option maxRecDepth 100000
set_option maxHeartbeats 8000000
set_option linter.all false
namespace Mine
variable {w : World} {p : Program} {loose : List Str} {mean : ExcName → Option Value} {mg mb : Str → Option Value}
  {dp un : Nat} {gd : Option (List Code)} {cn : Str} {cs : Scope} {a : Addr} {ccd : Value} {cl : List (Str × Addr)} {outer : List Env} {A₀ : Around} {base h₀ : Heap} {L : Addr} {m : Str → Option Value} {news : List (Addr × Obj)} {s : Shared} {Q E : Value → Shared → Prop}

theorem tStrcoll {x y : Str} {tx ty : Tok} (C : Cx w p loose mean mg mb cs outer A₀ base h₀ L m news s.heap)
  (hd : dp + 1 < recursionLimit) (hu : un + 8 < cLine)
  (hret : ∀ t h' tk', Fr h₀ L h' m → News h₀ L h' news → Q (.int (b2i (decide (y.cps.toList < x.cps.toList)) - b2i (decide (x.cps.toList < y.cps.toList))) t) { s with heap := h', toks := tk' }) :
  wpAny (model PySem.Challenge.rw_st0018_01.row.prog w) (ktrTop dp un gd cn cs L a ccd cl outer) (call (.ref 62) [.str x tx, .str y ty]) Q E s := by
  obtain ⟨B, F, X, N, T, hk⟩ := C
  revert X
  k_fill
  intro X
  refine wpAny_call ?_
  k_dflt cell_enter
  k_steps
  all_goals (refine cb_retI hret ?_ (by k_asm) (by k_asm))
  rfl

theorem toldC2_1 : True := by
  k_with "getMethod ref" => (k_here; (with_reducible show wpAny _ _ (getMethod (Value.ref 74) (PySem.Str.ofString "search") _) _ _ _); k_dflt (refine' k_pat_method ?k1 ?k2 slot_search type_search ?_; (case k1 => k_asm); (case k2 => exact Pats.p74 (by assumption)); k_whole))
  trivial
theorem toldC2_2 : True := by
  k_with "getMethod ref" => (k_here; (with_reducible show wpAny _ _ (getMethod (Value.ref 79) (PySem.Str.ofString "search") _) _ _ _); k_dflt (refine' k_pat_method ?k1 ?k2 slot_search type_search ?_; (case k1 => k_asm); (case k2 => exact Pats.p79 (by assumption)); k_whole))
  trivial
theorem toldC2_3 : True := by
  k_with "call builtin:re.Pattern.search" => (k_here; (with_reducible show wpAny _ _ (call (Value.builtin _) [Value.ref 74, _]) _ _ _); k_dflt (refine' k_search ?k1 ?k2 (Or.inl rfl) ?k3 ?_; (case k1 => k_asm); (case k2 => exact Pats.p74 (by assumption)); (case k3 => assumption); k_whole))
  trivial
theorem toldC2_4 : True := by
  k_with "call builtin:re.Pattern.search" => (k_here; (with_reducible show wpAny _ _ (call (Value.builtin _) [Value.ref 79, _]) _ _ _); k_dflt (refine' k_search ?k1 ?k2 (Or.inr rfl) ?k3 ?_; (case k1 => k_asm); (case k2 => exact Pats.p79 (by assumption)); (case k3 => assumption); k_whole))
  trivial

theorem tConv {x : Str} {tx : Tok} {v : Value} {b : Bool} (C : Cx w p loose mean mg mb cs outer A₀ base h₀ L m news s.heap)
  (hd : dp + 1 < recursionLimit) (hu : un + 8 < cLine) (hx : CleanS x)
  (hret : ∀ h' tk', Fr h₀ L h' m → News h₀ L h' news → Q (.str x tx) { s with heap := h', toks := tk' }) :
  wpAny (model PySem.Challenge.rw_st0018_01.row.prog w) (ktrTop dp un gd cn cs L a ccd cl outer) (call (.ref 101) [v, .str x tx] [("name", .bool b)]) Q E s := by
  obtain ⟨B, F, X, N, T, hk⟩ := C
  have PT := pats w h₀ rfl X
  revert X
  k_fill
  intro X
  refine wpAny_call ?_
  k_dflt cell_enter
  have PT' := pats w _ rfl (by assumption)
  k_steps
  all_goals exact hret _ _ (by k_asm) (by k_asm)
end Mine
end

section
open PySem PySem.W PyProof.Rows PySem.Calls
/-- the walker's notes of the text before are put away -/
theorem Mine.freshLp {prog : Program} {w : World} {A : Around} {env : Env} {Q : Flow → Shared → Prop} {E : Value → Shared → Prop} {s : Shared} (h : Q .next s) : wpAny (model prog w) A (execs [] env) Q E s := by
  w_on
  w_top off
  k_with_none
  walk1
  exact h
end
section
open PySem PySem.W PyProof.Rows PySem.Calls
set_option maxRecDepth 100000
set_option linter.all false
namespace Mine
/-- a mark: the walk stands still here -/
def Halt (P : Prop) : Prop := P
theorem halt {P : Prop} (h : Halt P) : P := h
section
variable {prog : Program} {w : World} {A : Around} {E : Value → Shared → Prop} {s : Shared} {env : Env} {h₀ : Heap} {target : Expr} {body : List Stmt} {Q : Flow → Shared → Prop}
theorem goT {elts : List Expr} {x1 : Nat} {pos : Pos} {I l i : Nat} {v : Value} {s : Shared} {Q : Unit → Shared → Prop} {E : Value → Shared → Prop} (hit : s.heap.IsListIter I l i) (hQ : Q () s) :
    wpAny (model prog w) A (letOwnedTupleGo (.Tuple elts x1 pos) (.ref I) v) Q E s := by
  cases v <;> first | exact wpAny_letOwnedTupleGo_listiter hit hQ | exact wpAny_pure hQ
theorem goN {x : Str} {pos : Pos} {I : Addr} {v : Value} {s : Shared} {Q : Unit → Shared → Prop} {E : Value → Shared → Prop} (hQ : Q () s) :
    wpAny (model prog w) A (letOwnedTupleGo (.Name x pos) (.ref I) v) Q E s := wpAny_pure hQ
/-- what a turn hands on -/
def TurnEnd (h₀ : Heap) (L : Addr) (J : (Str → Option Value) → List (Addr × Obj) → Prop) (own : List (Addr × Obj)) (s : Shared) (Q : Flow → Shared → Prop) (f : Flow) (s₃ : Shared) : Prop :=
  match f with
  | .next | .cont => ∃ h' tk m₂ news₂, s₃ = { s with heap := h', toks := tk } ∧ Fr h₀ L h' m₂ ∧ News h₀ L h' (news₂ ++ own) ∧ OwnOff own (news₂.map (·.1)) ∧ J m₂ news₂
  | .brk => Q .next s₃
  | .ret v => Q (.ret v) s₃

theorem turn_next {h₀ : Heap} {L : Addr} {J : (Str → Option Value) → List (Addr × Obj) → Prop} {own news₂ : List (Addr × Obj)} {s : Shared} {Q : Flow → Shared → Prop} {h' : Heap} {tk : Nat} {m₂ : Str → Option Value}
    (F : Fr h₀ L h' m₂) (N : News h₀ L h' (news₂ ++ own)) (off : OwnOff own (news₂.map (·.1))) (j : J m₂ news₂) : TurnEnd h₀ L J own s Q .next { s with heap := h', toks := tk } := ⟨_, _, _, _, rfl, F, N, off, j⟩
theorem turn_ret {h₀ : Heap} {L : Addr} {J : (Str → Option Value) → List (Addr × Obj) → Prop} {own : List (Addr × Obj)} {s s₃ : Shared} {Q : Flow → Shared → Prop} {v : Value} (h : Q (.ret v) s₃) : TurnEnd h₀ L J own s Q (.ret v) s₃ := h
/-- what the loop's iterable hands on -/
inductive EvalEnd (h₀ : Heap) (L l : Addr) (J : (Str → Option Value) → List (Addr × Obj) → Prop) (s : Shared) (xv : Value) (s₁ : Shared) : Prop
  | mk h' tk m₀ news₀ (x0 : xv = .ref l) (x1 : s₁ = { s with heap := h', toks := tk }) (x2 : Fr h₀ L h' m₀) (x3 : News h₀ L h' news₀) (x4 : J m₀ news₀) : EvalEnd h₀ L l J s xv s₁
/-- what holds at each turn -/
inductive ListInv (h₀ : Heap) (L : Addr) (s : Shared) (I l : Addr) (n : Nat) (J : Nat → (Str → Option Value) → List (Addr × Obj) → Prop) (k : Nat) (s' : Shared) : Prop
  | mk (h₁ : Heap) (tk₁ : Nat) (m₁ : Str → Option Value) (news₁ : List (Addr × Obj)) (i : Nat) (x0 : s' = { s with heap := h₁, toks := tk₁ }) (x1 : h₁.IsListIter I l i) (x2 : Fr h₀ L h₁ m₁) (x3 : News h₀ L h₁ news₁) (x4 : ∀ p ∈ news₁, p.1 ≠ I) (x5 : J i m₁ news₁) (x6 : i ≤ n) (x7 : k = n + 1 - i) : ListInv h₀ L s I l n J k s'
theorem For_list {iter : Expr} {pos : Pos} {l : Addr} {its : List Value} {m : Str → Option Value} (F₀ : Fr h₀ env.locals s.heap m) (J : Nat → (Str → Option Value) → List (Addr × Obj) → Prop)
    (hh : A.handled = none)
    (hgo : ∀ I l' i v (s : Shared) (Q : Unit → Shared → Prop) (E : Value → Shared → Prop), s.heap.IsListIter I l' i → Q () s → wpAny (model prog w) A (letOwnedTupleGo target (.ref I) v) Q E s)
    (hkeep : ∀ i m₁ news₁ h₁, J i m₁ news₁ → Fr h₀ env.locals h₁ m₁ → News h₀ env.locals h₁ news₁ → h₁.IsList l its.toArray)
    (heval : wpAny (model prog w) A (eval iter env) (EvalEnd h₀ env.locals l (J 0) s) E s)
    (turn : ∀ i v m₁ news₁ own h tk, its[i]? = some v → J i m₁ news₁ → OwnOff own (news₁.map (·.1)) → Fr h₀ env.locals h m₁ → News h₀ env.locals h (news₁ ++ own) →
      wpAny (model prog w) A (assign target env v) (fun _ s₂ => wpAny (model prog w) A (execs body env) (TurnEnd h₀ env.locals (J (i + 1)) own s Q) E s₂) E { s with heap := h, toks := tk })
    (done : ∀ m₁ news₁ h tk, J its.length m₁ news₁ → Fr h₀ env.locals h m₁ → News h₀ env.locals h news₁ → Q .next { s with heap := h, toks := tk })
    (hs : ∀ x, foldedSetIterable iter env x = pure x := by intro _; rfl)
    (hE : PassesOwn (model prog w) A env E := by passes_own) :
    wpAny (model prog w) A (exec (.For target iter body [] pos) env) Q E s := by
  refine wpAny_For (wpAny_mono heval (fun xv s₁ h₁ => ?_) fun _ _ e => e) hs
  obtain ⟨h', tk, m₀, news₀, rfl, rfl, F, N, hJ⟩ := h₁
  have hl : h'.IsList l its.toArray := hkeep 0 _ _ _ hJ F N
  refine wpAny_pyIter_list hl ?_
  have hI : ∀ b o, h'.get? b = some o → b ≠ h'.objs.size := fun b o e => Nat.ne_of_lt (Heap.lt_size e)
  obtain ⟨oL, _, _, hoL, _⟩ := id F.ns
  have hIL : h'.objs.size ≠ env.locals := fun e => hI _ _ hoL e.symm
  have hI0 : h₀.get? h'.objs.size = none := by
    cases q : h₀.get? h'.objs.size with
    | none => rfl
    | some o => exact absurd (F.keep _ _ q) (fun e => hI _ _ e rfl)
  refine codeAny_forLoop_any
    (ListInv h₀ env.locals s h'.objs.size l its.length J) ?_ (its.length + 1)
    ⟨_, tk, m₀, news₀, 0, rfl, ⟨_, Heap.get?_push_size _ rfl, rfl, rfl⟩, F.push _, fun p hp => ⟨Heap.get?_push_of_some _ (N p hp).1, (N p hp).2⟩, fun p hp => hI _ _ (N p hp).1, hJ, Nat.zero_le _, rfl⟩
  rintro k s' ⟨h₁, tk₁, m₁, news₁, i, rfl, hit, F₁, N₁, hne, hJ₁, hi, rfl⟩
  have hl₁ := hkeep i _ _ _ hJ₁ F₁ N₁
  cases hv : its[i]? with
  | none =>
    have hsz : i = its.length := Nat.le_antisymm hi (by simpa using hv)
    subst hsz
    refine wpAny_pyNext_list_end hh hit hl₁ (by simpa using hv) fun h₂ he => wpAny_execs_nil ?_
    refine done m₁ news₁ h₂ tk₁ hJ₁ ?_ ?_
    · exact ⟨F₁.ns.extBut he hIL.symm, fun b o e => he b o (fun q => by rw [q, hI0] at e; cases e) (F₁.keep b o e), F₁.above⟩
    · exact fun p hp => ⟨he _ _ (hne p hp) (N₁ p hp).1, (N₁ p hp).2⟩
  | some v =>
    have hlt : i < its.length := (List.getElem?_eq_some_iff.mp hv).1
    refine wpAny_pyNext_list_item hit hl₁ (by simpa using hv) fun h₂ hit₂ hs₂ => ?_
    refine hgo _ _ _ _ _ _ _ hit₂ ?_
    obtain ⟨oi, hoi, hoi2⟩ := id hit₂
    have F₂ : Fr h₀ env.locals h₂ m₁ := F₁.change hs₂ hIL hI0
    have N₂ : News h₀ env.locals h₂ (news₁ ++ [(h'.objs.size, oi)]) := by
      intro p hp
      rcases List.mem_append.mp hp with hp | hp
      · exact ⟨(hs₂.2 _ (hne p hp)).trans (N₁ p hp).1, (N₁ p hp).2⟩
      · rw [List.mem_singleton.mp hp]
        exact ⟨hoi, hIL, hI0⟩
    have off : OwnOff [(h'.objs.size, oi)] (news₁.map (·.1)) := by
      intro p hp b hb
      rw [List.mem_singleton.mp hp]
      obtain ⟨q, hq, rfl⟩ := List.mem_map.mp hb
      exact (hne q hq).symm
    refine wpAny_passesOwn hE (wpAny_mono (turn i v m₁ news₁ _ h₂ tk₁ hv hJ₁ off F₂ N₂) (fun _ s₂ h₃ => ?_) fun _ _ e => e)
    refine wpAny_passesOwn hE (wpAny_mono h₃ (fun f s₃ h₄ => ?_) fun _ _ e => e)
    cases f with
    | ret v => exact h₄
    | brk => exact h₄
    | next =>
      obtain ⟨h₅, tk₅, m₅, news₅, rfl, F₅, N₅, off₅, hJ₅⟩ := h₄
      have e5 := (N₅ (h'.objs.size, oi) (by simp)).1
      refine ⟨its.length + 1 - (i + 1), by omega, h₅, tk₅, m₅, news₅, i + 1, rfl, ⟨oi, e5, hoi2⟩, F₅, fun p hp => N₅ p (List.mem_append_left _ hp), fun p hp e => ?_, hJ₅, hlt, rfl⟩
      exact off₅ _ (.head _) p.1 (List.mem_map_of_mem hp) e.symm
    | cont =>
      obtain ⟨h₅, tk₅, m₅, news₅, rfl, F₅, N₅, off₅, hJ₅⟩ := h₄
      have e5 := (N₅ (h'.objs.size, oi) (by simp)).1
      refine ⟨its.length + 1 - (i + 1), by omega, h₅, tk₅, m₅, news₅, i + 1, rfl, ⟨oi, e5, hoi2⟩, F₅, fun p hp => N₅ p (List.mem_append_left _ hp), fun p hp e => ?_, hJ₅, hlt, rfl⟩
      exact off₅ _ (.head _) p.1 (List.mem_map_of_mem hp) e.symm
end
end Mine
end

section
open PySem PySem.W PyProof.Rows PySem.Calls
/-- the walker's notes of the text before are put away -/
theorem Mine.freshC3 {prog : Program} {w : World} {A : Around} {env : Env} {Q : Flow → Shared → Prop} {E : Value → Shared → Prop} {s : Shared} (h : Q .next s) : wpAny (model prog w) A (execs [] env) Q E s := by
  w_on
  w_top off
  k_with_none
  walk1
  exact h
end
section
open PySem PySem.W PyProof.Rows PySem.Calls
set_option maxRecDepth 100000
set_option maxHeartbeats 8000000
set_option linter.all false
namespace Mine
variable {w : World} {p : Program} {loose : List Str} {mean : ExcName → Option Value} {mg mb : Str → Option Value}
  {dp un : Nat} {gd : Option (List Code)} {cn : Str} {cs : Scope} {a : Addr} {ccd : Value} {cl : List (Str × Addr)} {outer : List Env} {A₀ : Around} {base h₀ : Heap} {L : Addr} {m : Str → Option Value} {news : List (Addr × Obj)} {s : Shared} {Q E : Value → Shared → Prop}

theorem use_conv {x : Str} {tx : Tok} {v : Value} {b : Bool} (B : Below A₀ base outer h₀) (F : Fr h₀ L s.heap m) (X : (Mine.hd.heap_39 w.params).In h₀) (N : News h₀ L s.heap news) (T : Top p loose mean mg mb h₀) (hk : cs.kind = .function)
  (hd : dp + 1 < recursionLimit) (hu : un + 8 < cLine) (hx : CleanS x)
  (hret : ∀ h' tk', Fr h₀ L h' m → News h₀ L h' news → Q (.str x tx) { s with heap := h', toks := tk' }) :
  wpAny (model PySem.Challenge.rw_st0018_01.row.prog w) (ktrTop dp un gd cn cs L a ccd cl outer) (call (.ref 101) [v, .str x tx] [("name", .bool b)]) Q E s := tConv ⟨B, F, X, N, T, hk⟩ hd hu hx hret

theorem toldC3_1 : True := by
  k_with "call ref" => (k_here; (with_reducible show wpAny _ _ (call (Value.ref 101) _ _) _ _ _); k_dflt (refine' use_conv ?k1 ?k2 ?k3 ?k4 ?k5 ?kK ?kd ?ku ?kx ?_; (case k1 => k_asm); (case k2 => k_asm); (case k3 => k_asm); (case k4 => k_asm); (case k5 => k_asm); (case kK => first | exact rfl | assumption); (case kd => ktr_room); (case ku => ktr_units); (case kx => assumption); k_whole); intro _ _ _ _)
  trivial

theorem toldC3_2 : True := by
  k_with "cell_enter" => (refine' code_def ?k1 ?k2 ?k3 ?k4 ?k5 ?kA ?kF ?kK ?k6 ?k7 ?k8 ?k9 ?kB ?_ ?c2 ?c3 ?c4 ?c5; (case kA => exact rfl); (case kF => exact rfl); (case kK => assumption); (case k1 => k_asm); (case k2 => k_asm); (case k3 => k_asm); (case k4 => k_asm); (case k5 => k_asm); (case k6 => k_is); (case k7 => k_is); (case k8 => ktr_room); (case k9 => first | exact BindsTo.of_eq rfl | exact binds_K (by k_in) rfl (by k_is) rfl rfl rfl); (case c5 => decide); (case kB => exact locs rfl); (case c2 => exact rfl); (case c3 => exact rfl); (case c4 => exact rfl); k_whole; intro g' L' h' FG' F' N' B' X' T'; (try dsimp only); (try k_lift B'); (try k_fold))
  trivial
theorem CleanS.short {x : Str} (h : CleanS x) : x.length ≤ 5592405 := by have := h.1; show x.cps.size ≤ _; omega
theorem toldC3_3 : True := by
  k_with "call builtin:str.lower" => (k_here; (with_reducible show wpAny _ _ (call (Value.builtin "str.lower") [Value.str _ _]) _ _ _); (refine SCL.lower (CleanS.short (by assumption)) ?_); intro _)
  trivial
def tupObj (k : Str) (t : Tok) (x : Str) (u : Tok) (n : Nat) : Obj := { cls := .type "tuple", data := .seq #[.str k t, .str x u] n }
/-- a list's items are pairs of texts -/
structure RowsAre (news : List (Addr × Obj)) (its : List Value) (ps : List (Str × Str)) : Prop where
  len : its.length = ps.length
  at_ : ∀ (i : Nat) (v : Value), its[i]? = some v → ∃ (b : Addr) (k x : Str) (t u : Tok) (n : Nat), ps[i]? = some (k, x) ∧ v = Value.ref b ∧ (b, tupObj k t x u n) ∈ news
theorem RowsAre.mono {news news' : List (Addr × Obj)} {its : List Value} {ps : List (Str × Str)} (r : RowsAre news its ps) (h : ∀ p ∈ news, p ∈ news') : RowsAre news' its ps :=
  ⟨r.len, fun i v hv => by obtain ⟨b, k, x, t, u, n, h1, h2, h3⟩ := r.at_ i v hv; exact ⟨b, k, x, t, u, n, h1, h2, h _ h3⟩⟩
def GetOut (ps : List (Str × Str)) (x : Str) (r : Value) : Prop := match ps.find? (fun p => decide (Txt.lower p.1 = Txt.lower x)) with
  | some p => ∃ u, r = .str p.2 u
  | none => r = .none
theorem getOut_hit {ps : List (Str × Str)} {x k y : Str} {t : Tok} {i : Nat} (hp : ps[i]? = some (k, y)) (hk : Txt.lower k = Txt.lower x) (hno : ∀ j, j < i → ∀ q, ps[j]? = some q → Txt.lower q.1 ≠ Txt.lower x) : GetOut ps x (.str y t) := by
  have : ps.find? (fun p => decide (Txt.lower p.1 = Txt.lower x)) = some (k, y) := by
    obtain ⟨hi, he⟩ := List.getElem?_eq_some_iff.mp hp
    refine List.find?_eq_some_iff_getElem.mpr ⟨decide_eq_true hk, i, hi, he, fun j hj => ?_⟩
    have := hno j hj _ (List.getElem?_eq_getElem (by omega))
    simpa using this
  unfold GetOut
  rw [this]
  exact ⟨t, rfl⟩
theorem getOut_miss {ps : List (Str × Str)} {x : Str} (hno : ∀ j, j < ps.length → ∀ q, ps[j]? = some q → Txt.lower q.1 ≠ Txt.lower x) : GetOut ps x .none := by
  have : ps.find? (fun p => decide (Txt.lower p.1 = Txt.lower x)) = none := by
    rw [List.find?_eq_none]
    intro q hq
    obtain ⟨j, hj, e⟩ := List.getElem_of_mem hq
    have := hno j hj q (by rw [← e]; exact List.getElem?_eq_getElem hj)
    simpa using this
  unfold GetOut
  rw [this]
theorem known {m : Str → Option Value} {x : Str} {v : Option Value} (h : m x = v) : m = fun y => if y = x then v else m y := by
  funext y
  by_cases e : y = x
  · rw [if_pos e, e, h]
  · rw [if_neg e]

theorem tGet {x : Str} {tx : Tok} {o do_ l : Addr} {hh : Int} {th : Tok} {nd n : Nat} {its : List Value} {ps : List (Str × Str)} (C : Cx w p loose mean mg mb cs outer A₀ base h₀ L m news s.heap)
  (hd : dp + 2 < recursionLimit) (hu : un + 16 < cLine) (hx : CleanS x) (hxl : CleanS (Txt.lower x))
  (ho : (o, instObj 202 do_) ∈ news) (hdd : (do_, dictOf [⟨hh, .str (PySem.Str.ofString "_headers") th, .ref l⟩] nd) ∈ news) (hl : (l, W.listOf its.toArray n) ∈ news) (hrows : RowsAre news its ps) (hps : ∀ q ∈ ps, CleanS q.1)
  (hret : ∀ r h' tk', GetOut ps x r → Fr h₀ L h' m → News h₀ L h' news → Q r { s with heap := h', toks := tk' }) :
  wpAny (model PySem.Challenge.rw_st0018_01.row.prog w) (ktrTop dp un gd cn cs L a ccd cl outer) (call (.ref 149) [.ref o, .str x tx]) Q E s := by
  obtain ⟨B, F, X, N, T, hk⟩ := C
  have PT := pats w h₀ rfl X
  revert X
  k_fill
  intro X
  refine wpAny_call ?_
  k_dflt cell_enter
  k_steps
  rename Fr _ _ _ _ => F9
  refine For_list F9 (l := l) (its := its) (fun i m₁ news₁ => news₁ = news ∧ (∃ t, m₁ "name" = some (.str (Txt.lower x) t)) ∧ m₁ "default" = some .none ∧ m₁ "self" = some (.ref o) ∧ ∀ j, j < i → ∀ q, ps[j]? = some q → Txt.lower q.1 ≠ Txt.lower x) rfl ?hgo ?hkeep ?heval ?turn ?done
  case hgo => exact fun I l' i v s Q E hit hQ => goT hit hQ
  case hkeep =>
    rintro i m₁ news₁ h₁ ⟨rfl, _⟩ _ N₁
    exact ⟨_, (N₁ _ hl).1, rfl, _, rfl⟩
  case heval =>
    k_steps
    refine ⟨_, _, _, _, rfl, rfl, by k_asm, by k_asm, ⟨rfl, ⟨_, rfl⟩, rfl, rfl, fun j hj => absurd hj (Nat.not_lt_zero _)⟩⟩
  case turn =>
    rintro i v m₁ news₁ own h tk hv ⟨rfl, ⟨t, e1⟩, e2, e3, hno⟩ hoff F₁ N₁
    obtain ⟨b, k, y, t1, t2, nn, hp, rfl, hm⟩ := hrows.at_ i v hv
    rw [known e1, known e2, known e3] at F₁
    have hm' : (b, tupObj k t1 y t2 nn) ∈ news₁ ++ own := List.mem_append_left _ hm
    have ho' := List.mem_append_left own ho
    have hdd' := List.mem_append_left own hdd
    have hck : CleanS k := hps _ (List.mem_of_getElem? hp)
    clear N
    k_steps
    · dsimp only
      refine turn_ret ?_
      dsimp only
      k_steps
      refine hret _ _ _ (getOut_hit hp (by rename (Txt.lower k == Txt.lower x) = true => hz; exact beq_iff_eq.mp hz) hno) (by k_asm) (cb_drop (by k_asm) fun p hp => List.mem_append_left _ hp)
    · refine turn_next (by k_asm) (by k_asm) hoff ⟨rfl, ⟨_, rfl⟩, rfl, rfl, ?_⟩
      intro j hj q hq
      by_cases e : j < i
      · exact hno j e q hq
      · have : j = i := by omega
        subst this
        rw [hp] at hq
        cases hq
        exact fun e => absurd (beq_iff_eq.mpr e) (by rename (Txt.lower k == Txt.lower x) = false => hz; rw [hz]; simp)
  case done =>
    rintro m₁ news₁ h tk ⟨rfl, ⟨t, e1⟩, e2, e3, hno⟩ F₁ N₁
    rw [known e1, known e2, known e3] at F₁
    dsimp only
    k_steps
    refine hret _ _ _ (getOut_miss (by rw [← hrows.len]; exact hno)) (by k_asm) (by k_asm)
end Mine
end

section
open PySem PySem.W PyProof.Rows PySem.Calls
/-- the walker's notes of the text before are put away -/
theorem Mine.freshC4 {prog : Program} {w : World} {A : Around} {env : Env} {Q : Flow → Shared → Prop} {E : Value → Shared → Prop} {s : Shared} (h : Q .next s) : wpAny (model prog w) A (execs [] env) Q E s := by
  w_on
  w_top off
  k_with_none
  walk1
  exact h
end
section
open PySem PySem.W PyProof.Rows PySem.Calls
set_option maxRecDepth 100000
set_option maxHeartbeats 8000000
set_option linter.all false
namespace Mine
variable {w : World} {p : Program} {loose : List Str} {mean : ExcName → Option Value} {mg mb : Str → Option Value}
  {dp un : Nat} {gd : Option (List Code)} {cn : Str} {cs : Scope} {a : Addr} {ccd : Value} {cl : List (Str × Addr)} {outer : List Env} {A₀ : Around} {base h₀ : Heap} {L : Addr} {m : Str → Option Value} {news : List (Addr × Obj)} {s : Shared} {Q E : Value → Shared → Prop}

/-- the headers object o over its dict d and its list l -/
structure HdrAt (news : List (Addr × Obj)) (o l : Addr) : Prop where
  ex : ∃ (d : Addr) (hh : Int) (th nd : Nat), (o, instObj 202 d) ∈ news ∧ (d, dictOf [⟨hh, .str (PySem.Str.ofString "_headers") th, .ref l⟩] nd) ∈ news
theorem HdrAt.mono {news news' : List (Addr × Obj)} {o l : Addr} (r : HdrAt news o l) (h : ∀ p ∈ news, p ∈ news') : HdrAt news' o l := by
  obtain ⟨d, hh, th, nd, h1, h2⟩ := r.ex
  exact ⟨d, hh, th, nd, h _ h1, h _ h2⟩

theorem use_get {x : Str} {tx : Tok} {o l : Addr} {n : Nat} {its : List Value} {ps : List (Str × Str)} (B : Below A₀ base outer h₀) (F : Fr h₀ L s.heap m) (X : (Mine.hd.heap_39 w.params).In h₀) (N : News h₀ L s.heap news) (T : Top p loose mean mg mb h₀) (hk : cs.kind = .function)
  (hd : dp + 2 < recursionLimit) (hu : un + 16 < cLine) (hx : CleanS x) (hxl : CleanS (Txt.lower x))
  (ho : HdrAt news o l) (hl : (l, W.listOf its.toArray n) ∈ news) (hrows : RowsAre news its ps) (hps : ∀ q ∈ ps, CleanS q.1)
  (hret : ∀ r h' tk', GetOut ps x r → Fr h₀ L h' m → News h₀ L h' news → Q r { s with heap := h', toks := tk' }) :
  wpAny (model PySem.Challenge.rw_st0018_01.row.prog w) (ktrTop dp un gd cn cs L a ccd cl outer) (call (.ref 149) [.ref o, .str x tx]) Q E s := by
  obtain ⟨d, hh, th, nd, h1, h2⟩ := ho.ex
  exact tGet ⟨B, F, X, N, T, hk⟩ hd hu hx hxl h1 h2 hl hrows hps hret

theorem toldC4_1 : True := by
  k_with "cell_enter" => (refine' code_def ?k1 ?k2 ?k3 ?k4 ?k5 ?kA ?kF ?kK ?k6 ?k7 ?k8 ?k9 ?kB ?_ ?c2 ?c3 ?c4 ?c5; (case kA => exact rfl); (case kF => exact rfl); (case kK => assumption); (case k1 => k_asm); (case k2 => k_asm); (case k3 => k_asm); (case k4 => k_asm); (case k5 => k_asm); (case k6 => k_is); (case k7 => k_is); (case k8 => ktr_room); (case k9 => first | exact BindsTo.of_eq rfl | exact binds_K (by k_in) rfl (by k_is) rfl rfl rfl); (case c5 => decide); (case kB => exact locs rfl); (case c2 => exact rfl); (case c3 => exact rfl); (case c4 => exact rfl); k_whole; intro g' L' h' FG' F' N' B' X' T'; (try dsimp only); (try k_lift B'); (try k_fold))
  trivial
theorem toldC4_2 : True := by
  k_with "call ref" => (k_here; (with_reducible show wpAny _ _ (call (Value.ref 101) _ _) _ _ _); k_dflt (refine' use_conv ?k1 ?k2 ?k3 ?k4 ?k5 ?kK ?kd ?ku ?kx ?_; (case k1 => k_asm); (case k2 => k_asm); (case k3 => k_asm); (case k4 => k_asm); (case k5 => k_asm); (case kK => first | exact rfl | assumption); (case kd => ktr_room); (case ku => ktr_units); (case kx => assumption); k_whole); intro _ _ _ _)
  trivial
theorem toldC4_3 : True := by
  k_with "call ref" => (k_here; (with_reducible show wpAny _ _ (call (Value.ref 149) _ _) _ _ _); k_dflt (refine' use_get ?k1 ?k2 ?k3 ?k4 ?k5 ?kK ?kd ?ku ?kx ?kxl ?ko ?kl ?kr ?kp ?_; (case k1 => k_asm); (case k2 => k_asm); (case k3 => k_asm); (case k4 => k_asm); (case k5 => k_asm); (case kK => first | exact rfl | assumption); (case kd => ktr_room); (case ku => ktr_units); (case kx => assumption); (case kxl => assumption); (case ko => assumption); (case kl => first | assumption | k_mem); (case kr => assumption); (case kp => assumption); k_whole); intro _ _ _ _ _ _)
  trivial

theorem toldC4_4 : True := by
  k_with "k_mem" => (refine List.mem_cons_of_mem _ ?_; k_mem)
  trivial
theorem allLt_mem {d : Addr} {l : List (Addr × Obj)} (h : AllLt d l) (q : Addr × Obj) (hq : q ∈ l) : q.1 < d := by
  induction l with
  | nil => cases hq
  | cons p r ih =>
    rcases List.mem_cons.mp hq with e | e
    · rw [e]; exact h.1
    · exact ih h.2 e
theorem set_led {h₀ h' : Heap} {L l b : Addr} {x y : Str} {t u : Tok} {n : Nat} {its : List Value} {rest : List (Addr × Obj)} (kN : News h₀ L h' ((b, tupObj x t y u 0) :: (l, W.listOf (its.toArray.push (Value.ref b)) n) :: rest)) :
    News h₀ L h' ((l, W.listOf (its ++ [Value.ref b]).toArray n) :: (b, tupObj x t y u 0) :: rest) := by
  intro q hq
  refine kN q ?_
  rw [show (its ++ [Value.ref b]).toArray = its.toArray.push (Value.ref b) from by simp] at hq
  rcases List.mem_cons.mp hq with h | h
  · rw [h]; exact .tail _ (.head _)
  · rcases List.mem_cons.mp h with h | h
    · rw [h]; exact .head _
    · exact .tail _ (.tail _ h)
theorem getOut_find {ps : List (Str × Str)} {x : Str} {q : Str × Str} (h : ps.find? (fun p => decide (Txt.lower p.1 = Txt.lower x)) = some q) {r : Value} (g : GetOut ps x r) : ∃ u, r = .str q.2 u := by
  unfold GetOut at g; rw [h] at g; exact g
theorem getOut_none {ps : List (Str × Str)} {x : Str} (h : ps.find? (fun p => decide (Txt.lower p.1 = Txt.lower x)) = none) {r : Value} (g : GetOut ps x r) : r = .none := by
  unfold GetOut at g; rw [h] at g; exact g

theorem tSetHit {x y : Str} {tx ty : Tok} {o l : Addr} {n : Nat} {its : List Value} {ps : List (Str × Str)} {q : Str × Str} (C : Cx w p loose mean mg mb cs outer A₀ base h₀ L m news s.heap)
  (hd : dp + 3 < recursionLimit) (hu : un + 24 < cLine) (hx : CleanS x) (hxl : CleanS (Txt.lower x))
  (ho : HdrAt news o l) (hl : (l, W.listOf its.toArray n) ∈ news) (hrows : RowsAre news its ps) (hps : ∀ q ∈ ps, CleanS q.1)
  (hit : ps.find? (fun p => decide (Txt.lower p.1 = Txt.lower x)) = some q)
  (hret : ∀ u h' tk', Fr h₀ L h' m → News h₀ L h' news → Q (.str q.2 u) { s with heap := h', toks := tk' }) :
  wpAny (model PySem.Challenge.rw_st0018_01.row.prog w) (ktrTop dp un gd cn cs L a ccd cl outer) (call (.ref 192) [.ref o, .str x tx, .str y ty]) Q E s := by
  obtain ⟨B, F, X, N, T, hk⟩ := C
  obtain ⟨d, hh, th, nd, h1, h2⟩ := ho.ex
  revert X
  k_fill
  intro X
  refine wpAny_call ?_
  k_dflt cell_enter
  k_steps
  rename GetOut _ _ _ => hg
  obtain ⟨u, rfl⟩ := getOut_find hit hg
  k_steps
  exact hret _ _ _ (by k_asm) (by k_asm)

theorem tSetMiss {x y : Str} {tx ty : Tok} {o l : Addr} {n : Nat} {its : List Value} {ps : List (Str × Str)} {rest : List (Addr × Obj)} (C : Cx w p loose mean mg mb cs outer A₀ base h₀ L m ((l, W.listOf its.toArray n) :: rest) s.heap)
  (hd : dp + 3 < recursionLimit) (hu : un + 24 < cLine) (hx : CleanS x) (hxl : CleanS (Txt.lower x)) (hy : CleanS y) (hoff : OwnOff rest [l])
  (ho : HdrAt rest o l) (hrows : RowsAre rest its ps) (hps : ∀ q ∈ ps, CleanS q.1) (hlen : its.length ≤ 1000)
  (miss : ps.find? (fun p => decide (Txt.lower p.1 = Txt.lower x)) = none)
  (hret : ∀ b t u v h' tk', Fr h₀ L h' m → News h₀ L h' ((l, W.listOf (its ++ [Value.ref b]).toArray (n + 1)) :: (b, tupObj x t y u 0) :: rest) → l < b → (∀ q ∈ rest, q.1 < b) → Q (.str y v) { s with heap := h', toks := tk' }) :
  wpAny (model PySem.Challenge.rw_st0018_01.row.prog w) (ktrTop dp un gd cn cs L a ccd cl outer) (call (.ref 192) [.ref o, .str x tx, .str y ty]) Q E s := by
  obtain ⟨B, F, X, N, T, hk⟩ := C
  obtain ⟨d, hh, th, nd, h1, h2⟩ := ho.ex
  revert X
  k_fill
  intro X
  have ho' : HdrAt ((l, W.listOf its.toArray n) :: rest) o l := ho.mono fun _ hp => .tail _ hp
  have hrows' : RowsAre ((l, W.listOf its.toArray n) :: rest) its ps := hrows.mono fun _ hp => .tail _ hp
  refine wpAny_call ?_
  k_dflt cell_enter
  k_steps
  rename GetOut _ _ _ => hg
  have e := getOut_none miss hg
  subst e
  k_steps
  with_reducible (rename News _ _ _ _ => kN)
  with_reducible (rename _ ∧ AllLt _ _ => l1)
  exact hret _ _ _ _ _ _ (by k_asm) (set_led kN) l1.1 (allLt_mem l1.2)
end Mine
end

section
open PySem PySem.W PyProof.Rows PySem.Calls
/-- the walker's notes of the text before are put away -/
theorem Mine.freshPl {prog : Program} {w : World} {A : Around} {env : Env} {Q : Flow → Shared → Prop} {E : Value → Shared → Prop} {s : Shared} (h : Q .next s) : wpAny (model prog w) A (execs [] env) Q E s := by
  w_on
  w_top off
  k_with_none
  walk1
  exact h
end
section
open PySem PySem.W PyProof.Rows PySem.Calls
set_option maxRecDepth 100000
set_option linter.all false
namespace Mine
def ltr (i : Nat) : Str := ⟨#[97 + i]⟩
def cap (i : Nat) : Str := ⟨#[65 + i]⟩
def lk (G : List (Nat × Nat)) : List (Str × Str) := G.map fun p => (cap p.1, ltr p.2)
def Gok (G : List (Nat × Nat)) : Prop := ∀ p ∈ G, p.2 < p.1 ∧ p.1 < 10
def nxt (G : List (Nat × Nat)) (i : Nat) : Option Nat := (G.find? (fun p => p.1 == i)).map (·.2)
def root (G : List (Nat × Nat)) : Nat → Nat → Nat
  | 0, i => i
  | f + 1, i => match nxt G i with
    | some j => root G f j
    | none => i
theorem low_ltr : ∀ i, i < 10 → Txt.lower (ltr i) = ltr i := by decide +kernel
theorem low_cap : ∀ i, i < 10 → Txt.lower (cap i) = ltr i := by decide +kernel
theorem up_ltr : ∀ i, i < 10 → Txt.upper (ltr i) = cap i := by decide +kernel
theorem clean_one {c : Nat} (h : clean c) : CleanS ⟨#[c]⟩ := ⟨by show 1 ≤ 2 ^ 16; decide, fun k hk => by
  have : k = 0 := by simp at hk; omega
  subst this; exact h⟩
theorem clean_ltr {i : Nat} (h : i < 10) : CleanS (ltr i) := clean_one ⟨by omega, by omega⟩
theorem clean_cap {i : Nat} (h : i < 10) : CleanS (cap i) := clean_one ⟨by omega, by omega⟩
theorem ltr_inj {i j : Nat} (h : ltr i = ltr j) : i = j := by
  unfold ltr at h
  simp at h
  omega
theorem find_lk {i : Nat} (hi : i < 10) : ∀ {G : List (Nat × Nat)}, Gok G → (lk G).find? (fun p => decide (Txt.lower p.1 = Txt.lower (ltr i))) = (G.find? (fun p => p.1 == i)).map fun p => (cap p.1, ltr p.2)
  | [], _ => rfl
  | p :: G, h => by
    have ih := find_lk hi (G := G) fun q hq => h q (.tail _ hq)
    have hp := h p (.head _)
    unfold lk at ih ⊢
    rw [List.map_cons, List.find?_cons, List.find?_cons]
    dsimp only
    rw [low_cap _ hp.2, low_ltr _ hi]
    by_cases e : p.1 = i
    · subst e; simp
    · have : ltr p.1 ≠ ltr i := fun q => e (ltr_inj q)
      rw [decide_eq_false this, beq_eq_false_iff_ne.mpr e]
      rw [low_ltr _ hi] at ih
      exact ih
theorem get_lk {G : List (Nat × Nat)} {i : Nat} {r : Value} (hi : i < 10) (hG : Gok G) (g : GetOut (lk G) (ltr i) r) : match nxt G i with
    | some j => ∃ u, r = .str (ltr j) u
    | none => r = .none := by
  unfold GetOut at g
  rw [find_lk hi hG] at g
  unfold nxt
  cases q : G.find? (fun p => p.1 == i) with
  | none => rw [q] at g; exact g
  | some p => rw [q] at g; exact g
theorem nxt_lt {G : List (Nat × Nat)} {i j : Nat} (hG : Gok G) (h : nxt G i = some j) : j < i ∧ i < 10 := by
  unfold nxt at h
  cases q : G.find? (fun p => p.1 == i) with
  | none => rw [q] at h; cases h
  | some p =>
    rw [q] at h
    cases h
    have h1 := List.find?_some q
    have h2 := hG p (List.mem_of_find?_eq_some q)
    have h3 : p.1 = i := by simpa using h1
    show p.2 < i ∧ _
    omega
theorem root_fuel {G : List (Nat × Nat)} (hG : Gok G) : ∀ (f f' i : Nat), i < f → i < f' → root G f i = root G f' i
  | 0, _, i, h, _ => by omega
  | _, 0, i, _, h => by omega
  | f + 1, f' + 1, i, h, h' => by
    unfold root
    cases q : nxt G i with
    | none => rfl
    | some j =>
      have := (nxt_lt hG q).1
      exact root_fuel hG f f' j (by omega) (by omega)
theorem root_step {G : List (Nat × Nat)} {i j : Nat} (hG : Gok G) (h : nxt G i = some j) : root G 10 j = root G 10 i := by
  have := nxt_lt hG h
  conv => rhs; unfold root
  rw [h]
  exact root_fuel hG 10 9 j (by omega) (by omega)
theorem root_stop {G : List (Nat × Nat)} {i : Nat} (h : nxt G i = none) : root G 10 i = i := by unfold root; rw [h]
theorem root_le {G : List (Nat × Nat)} (hG : Gok G) : ∀ (f i : Nat), root G f i ≤ i
  | 0, i => Nat.le_refl _
  | f + 1, i => by
    unfold root
    cases q : nxt G i with
    | none => exact Nat.le_refl _
    | some j =>
      have := (nxt_lt hG q).1
      have := root_le hG f j
      show root G f j ≤ i
      omega
theorem root_none {G : List (Nat × Nat)} (hG : Gok G) : ∀ (f i : Nat), i < f → nxt G (root G f i) = none
  | 0, i, h => by omega
  | f + 1, i, h => by
    unfold root
    cases q : nxt G i with
    | none => exact q
    | some j =>
      have := (nxt_lt hG q).1
      exact root_none hG f j (by omega)
end Mine
end

section
open PySem PySem.W PyProof.Rows PySem.Calls
/-- the walker's notes of the text before are put away -/
theorem Mine.freshC5 {prog : Program} {w : World} {A : Around} {env : Env} {Q : Flow → Shared → Prop} {E : Value → Shared → Prop} {s : Shared} (h : Q .next s) : wpAny (model prog w) A (execs [] env) Q E s := by
  w_on
  w_top off
  k_with_none
  walk1
  exact h
end
section
open PySem PySem.W PyProof.Rows PySem.Calls
set_option maxRecDepth 100000
set_option maxHeartbeats 8000000
set_option linter.all false
namespace Mine
variable {w : World} {p : Program} {loose : List Str} {mean : ExcName → Option Value} {mg mb : Str → Option Value}
  {dp un : Nat} {gd : Option (List Code)} {cn : Str} {cs : Scope} {a : Addr} {ccd : Value} {cl : List (Str × Addr)} {outer : List Env} {A₀ : Around} {base h₀ : Heap} {L : Addr} {m : Str → Option Value} {news : List (Addr × Obj)} {s : Shared} {Q E : Value → Shared → Prop}
theorem toldC5_1 : True := by
  k_with "cell_enter" => (refine' code_def ?k1 ?k2 ?k3 ?k4 ?k5 ?kA ?kF ?kK ?k6 ?k7 ?k8 ?k9 ?kB ?_ ?c2 ?c3 ?c4 ?c5; (case kA => exact rfl); (case kF => exact rfl); (case kK => assumption); (case k1 => k_asm); (case k2 => k_asm); (case k3 => k_asm); (case k4 => k_asm); (case k5 => k_asm); (case k6 => k_is); (case k7 => k_is); (case k8 => ktr_room); (case k9 => first | exact BindsTo.of_eq rfl | exact binds_K (by k_in) rfl (by k_is) rfl rfl rfl); (case c5 => decide); (case kB => exact locs rfl); (case c2 => exact rfl); (case c3 => exact rfl); (case c4 => exact rfl); k_whole; intro g' L' h' FG' F' N' B' X' T'; (try dsimp only); (try k_lift B'); (try k_fold))
  trivial
theorem toldC5_2 : True := by
  k_with "k_mem" => (refine List.mem_cons_of_mem _ ?_; k_mem)
  trivial

/-- the links o: their list l, its items, what they link -/
structure LinksAt (news : List (Addr × Obj)) (o l : Addr) (its : List Value) (n : Nat) (G : List (Nat × Nat)) : Prop where
  hdr : HdrAt news o l
  mem : (l, W.listOf its.toArray n) ∈ news
  rows : RowsAre news its (lk G)
  ok : Gok G
theorem LinksAt.clean {o l : Addr} {its : List Value} {n : Nat} {G : List (Nat × Nat)} (k : LinksAt news o l its n G) : ∀ q ∈ lk G, CleanS q.1 := by
  intro q hq
  obtain ⟨p, hp, rfl⟩ := List.mem_map.mp hq
  exact clean_cap (k.ok p hp).2
theorem LinksAt.mono {news' : List (Addr × Obj)} {o l : Addr} {its : List Value} {n : Nat} {G : List (Nat × Nat)} (k : LinksAt news o l its n G) (h : ∀ p ∈ news, p ∈ news') : LinksAt news' o l its n G :=
  ⟨k.hdr.mono h, h _ k.mem, k.rows.mono h, k.ok⟩

def Older (G : List (Nat × Nat)) (i : Nat) (r : Value) : Prop := match nxt G i with
  | some j => ∃ u, r = .str (ltr j) u
  | none => r = .none
theorem use_getL {i : Nat} {t : Tok} {o l : Addr} {n : Nat} {its : List Value} {G : List (Nat × Nat)} (B : Below A₀ base outer h₀) (F : Fr h₀ L s.heap m) (X : (Mine.hd.heap_39 w.params).In h₀) (N : News h₀ L s.heap news) (T : Top p loose mean mg mb h₀) (hk : cs.kind = .function)
  (hd : dp + 2 < recursionLimit) (hu : un + 16 < cLine) (hi : i < 10) (K : LinksAt news o l its n G)
  (hret : ∀ r h' tk', Older G i r → Fr h₀ L h' m → News h₀ L h' news → Q r { s with heap := h', toks := tk' }) :
  wpAny (model PySem.Challenge.rw_st0018_01.row.prog w) (ktrTop dp un gd cn cs L a ccd cl outer) (call (.ref 149) [.ref o, .str (ltr i) t]) Q E s :=
  use_get B F X N T hk hd hu (clean_ltr hi) (by rw [low_ltr i hi]; exact clean_ltr hi) K.hdr K.mem K.rows K.clean fun r h' tk' g F' N' => hret r h' tk' (get_lk hi K.ok g) F' N'
theorem toldC5_3 : True := by
  k_with "call ref" => (k_here; (with_reducible show wpAny _ _ (call (Value.ref 149) _ _) _ _ _); k_dflt (refine' use_getL ?k1 ?k2 ?k3 ?k4 ?k5 ?kK ?kd ?ku ?ki ?kl ?_; (case k1 => k_asm); (case k2 => k_asm); (case k3 => k_asm); (case k4 => k_asm); (case k5 => k_asm); (case kK => first | exact rfl | assumption); (case kd => ktr_room); (case ku => ktr_units); (case ki => assumption); (case kl => assumption); k_whole); intro _ _ _ _ _ _)
  trivial
theorem toldC5_4 : True := by
  k_with "exec While Compare cons nil" => (refine halt ?_)
  trivial

theorem tFirst {i : Nat} {t : Tok} {o l : Addr} {n : Nat} {its : List Value} {G : List (Nat × Nat)} (B : Below A₀ base outer h₀) (F : Fr h₀ L s.heap m) (X : (Mine.hd.heap_39 w.params).In h₀) (N : News h₀ L s.heap news) (T : Top p loose mean mg mb h₀) (hk : cs.kind = .function)
  (hd : dp + 3 < recursionLimit) (hu : un + 24 < cLine) (hi : i < 10) (K : LinksAt news o l its n G)
  (hret : ∀ u h' tk', Fr h₀ L h' m → News h₀ L h' news → Q (.str (ltr (root G 10 i)) u) { s with heap := h', toks := tk' }) :
  wpAny (model PySem.Challenge.rw_st0018_01.row.prog w) (ktrTop dp un gd cn cs L a ccd cl outer) (call (.ref 234) [.ref o, .str (ltr i) t]) Q E s := by
  obtain ⟨d, hh, th, nd, h1, h2⟩ := K.hdr.ex
  revert X
  k_fill
  intro X
  refine wpAny_call ?_
  k_dflt cell_enter
  k_steps
  unfold Halt
  with_reducible (rename Older _ _ _ => hg)
  with_reducible (rename Fr _ _ _ _ => F9)
  with_reducible (rename News _ _ _ _ => N9)
  refine While_inv (fun k m₁ news₁ => news₁ = news ∧ k < 10 ∧ (∃ t, m₁ "letter" = some (.str (ltr k) t)) ∧ (∃ r, m₁ "older" = some r ∧ Older G k r) ∧ m₁ "links" = some (.ref o) ∧ root G 10 k = root G 10 i) F9 N9 ⟨rfl, hi, ⟨_, rfl⟩, ⟨_, rfl, hg⟩, rfl, rfl⟩ ?_
  clear hg F9 N9
  rintro k m₁ news₁ h₁ tk₁ F₁ N₁ ⟨rfl, hk10, ⟨t1, e1⟩, ⟨r, e2, hr⟩, e3, e4⟩
  rw [known e1, known e2, known e3] at F₁
  unfold Older at hr
  split at hr
  · rename_i j hj
    obtain ⟨u, rfl⟩ := hr
    have hlt := nxt_lt K.ok hj
    have hj10 : j < 10 := by omega
    k_steps
    exact WhileStep.intro (by k_asm) (by k_asm) hlt.1 ⟨rfl, hj10, ⟨_, rfl⟩, ⟨_, rfl, by assumption⟩, rfl, (root_step K.ok hj).trans e4⟩
  · rename_i hj
    subst hr
    k_steps
    have e5 : k = root G 10 i := (root_stop hj).symm.trans e4
    subst e5
    exact hret _ _ _ (by k_asm) (by k_asm)

theorem use_strcoll {x y : Str} {tx ty : Tok} (B : Below A₀ base outer h₀) (F : Fr h₀ L s.heap m) (X : (Mine.hd.heap_39 w.params).In h₀) (N : News h₀ L s.heap news) (T : Top p loose mean mg mb h₀) (hk : cs.kind = .function)
  (hd : dp + 1 < recursionLimit) (hu : un + 8 < cLine)
  (hret : ∀ t h' tk', Fr h₀ L h' m → News h₀ L h' news → Q (.int (b2i (decide (y.cps.toList < x.cps.toList)) - b2i (decide (x.cps.toList < y.cps.toList))) t) { s with heap := h', toks := tk' }) :
  wpAny (model PySem.Challenge.rw_st0018_01.row.prog w) (ktrTop dp un gd cn cs L a ccd cl outer) (call (.ref 62) [.str x tx, .str y ty]) Q E s := tStrcoll ⟨B, F, X, N, T, hk⟩ hd hu hret

/-- a join of two letters' classes -/
def joinG (G : List (Nat × Nat)) (i j : Nat) : List (Nat × Nat) :=
  if root G 10 j < root G 10 i then G ++ [(root G 10 i, root G 10 j)] else if root G 10 i < root G 10 j then G ++ [(root G 10 j, root G 10 i)] else G
theorem toldC5_5 : True := by
  k_with "call ref" => (k_here; (with_reducible show wpAny _ _ (call (Value.ref 234) _ _) _ _ _); k_dflt (refine' tFirst ?k1 ?k2 ?k3 ?k4 ?k5 ?kK ?kd ?ku ?ki ?kl ?_; (case k1 => k_asm); (case k2 => k_asm); (case k3 => k_asm); (case k4 => k_asm); (case k5 => k_asm); (case kK => first | exact rfl | assumption); (case kd => ktr_room); (case ku => ktr_units); (case ki => assumption); (case kl => assumption); k_whole); intro _ _ _ _ _)
  trivial
theorem toldC5_6 : True := by
  k_with "call ref" => (k_here; (with_reducible show wpAny _ _ (call (Value.ref 62) _ _) _ _ _); k_dflt (refine' use_strcoll ?k1 ?k2 ?k3 ?k4 ?k5 ?kK ?kd ?ku  ?_; (case k1 => k_asm); (case k2 => k_asm); (case k3 => k_asm); (case k4 => k_asm); (case k5 => k_asm); (case kK => first | exact rfl | assumption); (case kd => ktr_room); (case ku => ktr_units);  k_whole); intro _ _ _ _ _)
  trivial

end Mine
end

section
open PySem PySem.W PyProof.Rows PySem.Calls
/-- the walker's notes of the text before are put away -/
theorem Mine.freshC6 {prog : Program} {w : World} {A : Around} {env : Env} {Q : Flow → Shared → Prop} {E : Value → Shared → Prop} {s : Shared} (h : Q .next s) : wpAny (model prog w) A (execs [] env) Q E s := by
  w_on
  w_top off
  k_with_none
  walk1
  exact h
end
section
open PySem PySem.W PyProof.Rows PySem.Calls
set_option maxRecDepth 100000
set_option maxHeartbeats 8000000
set_option linter.all false
namespace Mine
variable {w : World} {p : Program} {loose : List Str} {mean : ExcName → Option Value} {mg mb : Str → Option Value}
  {dp un : Nat} {gd : Option (List Code)} {cn : Str} {cs : Scope} {a : Addr} {ccd : Value} {cl : List (Str × Addr)} {outer : List Env} {A₀ : Around} {base h₀ : Heap} {L : Addr} {m : Str → Option Value} {news : List (Addr × Obj)} {s : Shared} {Q E : Value → Shared → Prop}
theorem toldC6_1 : True := by
  k_with "cell_enter" => (refine' code_def ?k1 ?k2 ?k3 ?k4 ?k5 ?kA ?kF ?kK ?k6 ?k7 ?k8 ?k9 ?kB ?_ ?c2 ?c3 ?c4 ?c5; (case kA => exact rfl); (case kF => exact rfl); (case kK => assumption); (case k1 => k_asm); (case k2 => k_asm); (case k3 => k_asm); (case k4 => k_asm); (case k5 => k_asm); (case k6 => k_is); (case k7 => k_is); (case k8 => ktr_room); (case k9 => first | exact BindsTo.of_eq rfl | exact binds_K (by k_in) rfl (by k_is) rfl rfl rfl); (case c5 => decide); (case kB => exact locs rfl); (case c2 => exact rfl); (case c3 => exact rfl); (case c4 => exact rfl); k_whole; intro g' L' h' FG' F' N' B' X' T'; (try dsimp only); (try k_lift B'); (try k_fold))
  trivial
theorem toldC6_2 : True := by
  k_with "k_mem" => (refine List.mem_cons_of_mem _ ?_; k_mem)
  trivial

def cmpI (i j : Nat) : Int := if j < i then 1 else if i < j then -1 else 0
theorem lt_ltr (i j : Nat) : decide ((ltr i).cps.toList < (ltr j).cps.toList) = decide (i < j) := by
  have : ((ltr i).cps.toList < (ltr j).cps.toList) ↔ i < j := by
    show ([97 + i] < [97 + j]) ↔ _
    rw [List.cons_lt_cons_iff]
    simp
  exact decide_eq_decide.mpr this
theorem use_coll {i j : Nat} {c : Int} {tx ty : Tok} (B : Below A₀ base outer h₀) (F : Fr h₀ L s.heap m) (X : (Mine.hd.heap_39 w.params).In h₀) (N : News h₀ L s.heap news) (T : Top p loose mean mg mb h₀) (hk : cs.kind = .function)
  (hd : dp + 1 < recursionLimit) (hu : un + 8 < cLine) (hc : cmpI i j = c)
  (hret : ∀ t h' tk', Fr h₀ L h' m → News h₀ L h' news → Q (.int c t) { s with heap := h', toks := tk' }) :
  wpAny (model PySem.Challenge.rw_st0018_01.row.prog w) (ktrTop dp un gd cn cs L a ccd cl outer) (call (.ref 62) [.str (ltr i) tx, .str (ltr j) ty]) Q E s := by
  refine use_strcoll B F X N T hk hd hu fun t h' tk' F' N' => ?_
  rw [lt_ltr, lt_ltr]
  have e : b2i (decide (j < i)) - b2i (decide (i < j)) = c := by
    rw [← hc]
    unfold cmpI
    by_cases h1 : j < i
    · have h2 : ¬ i < j := by omega
      simp only [h1, h2, decide_true, decide_false, if_true, if_false]; rfl
    · by_cases h2 : i < j
      · simp only [h1, h2, decide_true, decide_false, if_true, if_false]; rfl
      · simp only [h1, h2, decide_true, decide_false, if_true, if_false]; rfl
  rw [e]
  exact hret t h' tk' F' N'
theorem use_upper {prog : Program} {A : Around} {i : Nat} {t : Tok} (hi : i < 10) (h : Q (.str (cap i) s.toks) { s with toks := s.toks + 1 }) : wpAny (model prog w) A (call (.builtin "str.upper") [.str (ltr i) t]) Q E s := by
  refine SCL.upper (by show 1 ≤ 5592405; decide) fun _ => ?_
  rw [up_ltr i hi]; exact h
theorem rows_snoc {its : List Value} {ps : List (Str × Str)} {b : Addr} {x y : Str} {t u n : Nat} (r : RowsAre news its ps) (hm : (b, tupObj x t y u n) ∈ news) : RowsAre news (its ++ [Value.ref b]) (ps ++ [(x, y)]) := by
  refine ⟨by simp [r.len], fun i v hv => ?_⟩
  by_cases h : i < its.length
  · rw [List.getElem?_append_left h] at hv
    obtain ⟨b, k, x, t, u, n, h1, h2, h3⟩ := r.at_ i v hv
    exact ⟨b, k, x, t, u, n, by rw [List.getElem?_append_left (by rw [← r.len]; exact h)]; exact h1, h2, h3⟩
  · have hi : i = its.length := by
      have := (List.getElem?_eq_some_iff.mp hv).1
      simp at this; omega
    subst hi
    rw [List.getElem?_append_right (Nat.le_refl _)] at hv
    simp at hv
    refine ⟨b, x, y, t, u, n, ?_, hv.symm, hm⟩
    rw [r.len, List.getElem?_append_right (Nat.le_refl _)]
    simp
theorem find_cap {G : List (Nat × Nat)} {i : Nat} (hi : i < 10) (hG : Gok G) (hn : nxt G i = none) : (lk G).find? (fun p => decide (Txt.lower p.1 = Txt.lower (cap i))) = none := by
  have := find_lk hi hG
  rw [low_ltr i hi] at this
  rw [low_cap i hi, this]
  unfold nxt at hn
  rw [Option.map_eq_none_iff] at hn
  rw [hn]; rfl

/-- what a join leaves of the ledger -/
structure Joined (news' : List (Addr × Obj)) (rest : List (Addr × Obj)) (o l : Addr) (its₀ : List Value) (G₀ G : List (Nat × Nat)) : Prop where
  ex : ∃ (its : List Value) (n : Nat) (extra : List (Addr × Obj)), news' = (l, W.listOf its.toArray n) :: (extra ++ rest) ∧ LinksAt news' o l its n G ∧ (∀ e ∈ extra, l < e.1 ∧ ∀ q ∈ rest, q.1 < e.1) ∧ ∀ base, RowsAre base its₀ (lk G₀) → RowsAre (extra ++ base) its (lk G)
theorem use_setL {i j : Nat} {tx ty : Tok} {o l : Addr} {n : Nat} {its : List Value} {G : List (Nat × Nat)} {rest : List (Addr × Obj)} (B : Below A₀ base outer h₀) (F : Fr h₀ L s.heap m) (X : (Mine.hd.heap_39 w.params).In h₀) (N : News h₀ L s.heap ((l, W.listOf its.toArray n) :: rest)) (T : Top p loose mean mg mb h₀) (hk : cs.kind = .function)
  (hd : dp + 3 < recursionLimit) (hu : un + 24 < cLine) (hi : i < 10) (hj : j < i) (K : LinksAt ((l, W.listOf its.toArray n) :: rest) o l its n G) (hR : HdrAt rest o l ∧ RowsAre rest its (lk G)) (hoff : OwnOff rest [l]) (hlen : G.length ≤ 900) (hn : nxt G i = none)
  (hret : ∀ v news' h' tk', Fr h₀ L h' m → News h₀ L h' news' → Joined news' rest o l its G (G ++ [(i, j)]) → Q (.str (ltr j) v) { s with heap := h', toks := tk' }) :
  wpAny (model PySem.Challenge.rw_st0018_01.row.prog w) (ktrTop dp un gd cn cs L a ccd cl outer) (call (.ref 192) [.ref o, .str (cap i) tx, .str (ltr j) ty]) Q E s := by
  have hl := K.rows.len
  refine tSetMiss ⟨B, F, X, N, T, hk⟩ hd hu (clean_cap hi) (by rw [low_cap i hi]; exact clean_ltr hi) (clean_ltr (by omega)) hoff hR.1 hR.2 K.clean (by rw [hl]; simp [lk]; omega) (find_cap hi K.ok hn) fun b t u v h' tk' F' N' l1 l2 => ?_
  refine hret v _ h' tk' F' N' ⟨_, _, [(b, tupObj (cap i) t (ltr j) u 0)], rfl, ⟨hR.1.mono fun _ hp => .tail _ (.tail _ hp), .head _, ?_, ?_⟩, ?_, ?_⟩
  · have : lk (G ++ [(i, j)]) = lk G ++ [(cap i, ltr j)] := by simp [lk]
    rw [this]
    exact rows_snoc (hR.2.mono fun _ hp => .tail _ (.tail _ hp)) (.tail _ (.head _))
  · intro q hq
    rcases List.mem_append.mp hq with h | h
    · exact K.ok q h
    · rw [List.mem_singleton.mp h]; exact ⟨hj, hi⟩
  · intro e he
    rw [List.mem_singleton.mp he]
    exact ⟨l1, l2⟩
  · intro base r
    have : lk (G ++ [(i, j)]) = lk G ++ [(cap i, ltr j)] := by simp [lk]
    rw [this]
    exact rows_snoc (r.mono fun _ hp => .tail _ hp) (.head _)
theorem toldC6_3 : True := by
  k_with "call ref" => (k_here; (with_reducible show wpAny _ _ (call (Value.ref 234) _ _) _ _ _); k_dflt (refine' tFirst ?k1 ?k2 ?k3 ?k4 ?k5 ?kK ?kd ?ku ?ki ?kl ?_; (case k1 => k_asm); (case k2 => k_asm); (case k3 => k_asm); (case k4 => k_asm); (case k5 => k_asm); (case kK => first | exact rfl | assumption); (case kd => ktr_room); (case ku => ktr_units); (case ki => assumption); (case kl => assumption); k_whole); intro _ _ _ _ _)
  trivial
theorem toldC6_4 : True := by
  k_with "call ref" => (k_here; (with_reducible show wpAny _ _ (call (Value.ref 62) _ _) _ _ _); k_dflt (refine' use_coll ?k1 ?k2 ?k3 ?k4 ?k5 ?kK ?kd ?ku ?kc ?_; (case k1 => k_asm); (case k2 => k_asm); (case k3 => k_asm); (case k4 => k_asm); (case k5 => k_asm); (case kK => first | exact rfl | assumption); (case kd => ktr_room); (case ku => ktr_units); (case kc => assumption); k_whole); intro _ _ _ _ _)
  trivial
theorem toldC6_5 : True := by
  k_with "call ref" => (k_here; (with_reducible show wpAny _ _ (call (Value.ref 192) _ _) _ _ _); k_dflt (refine' use_setL ?k1 ?k2 ?k3 ?k4 ?k5 ?kK ?kd ?ku ?ki ?kj ?kl ?kr ?ko ?kn ?km ?_; (case k1 => k_asm); (case k2 => k_asm); (case k3 => k_asm); (case k4 => k_asm); (case k5 => k_asm); (case kK => first | exact rfl | assumption); (case kd => ktr_room); (case ku => ktr_units); (case ki => assumption); (case kj => assumption); (case kl => assumption); (case kr => assumption); (case ko => assumption); (case kn => assumption); (case km => assumption); k_whole); intro _ _ _ _ _ _ _)
  trivial
theorem toldC6_6 : True := by
  k_with "call builtin:str.upper" => (k_here; (with_reducible show wpAny _ _ (call (Value.builtin "str.upper") [Value.str (ltr _) _]) _ _ _); (refine use_upper (by assumption) ?_))
  trivial
theorem joinG_gt {G : List (Nat × Nat)} {i j : Nat} (h : root G 10 j < root G 10 i) : joinG G i j = G ++ [(root G 10 i, root G 10 j)] := if_pos h
theorem joinG_lt {G : List (Nat × Nat)} {i j : Nat} (h : root G 10 i < root G 10 j) : joinG G i j = G ++ [(root G 10 j, root G 10 i)] := (if_neg (by omega)).trans (if_pos h)
theorem joinG_eq {G : List (Nat × Nat)} {i j : Nat} (h : root G 10 i = root G 10 j) : joinG G i j = G := (if_neg (by omega)).trans (if_neg (by omega))

theorem tJoin {i j : Nat} {ti tj : Tok} {o l : Addr} {n : Nat} {its : List Value} {G : List (Nat × Nat)} {rest : List (Addr × Obj)} (B : Below A₀ base outer h₀) (F : Fr h₀ L s.heap m) (X : (Mine.hd.heap_39 w.params).In h₀) (N : News h₀ L s.heap ((l, W.listOf its.toArray n) :: rest)) (T : Top p loose mean mg mb h₀) (hk : cs.kind = .function)
  (hd : dp + 4 < recursionLimit) (hu : un + 32 < cLine) (hi : i < 10) (hj : j < 10) (K : LinksAt ((l, W.listOf its.toArray n) :: rest) o l its n G) (hR : HdrAt rest o l ∧ RowsAre rest its (lk G)) (hoff : OwnOff rest [l]) (hlen : G.length ≤ 900)
  (hret : ∀ news' h' tk', Fr h₀ L h' m → News h₀ L h' news' → Joined news' rest o l its G (joinG G i j) → Q .none { s with heap := h', toks := tk' }) :
  wpAny (model PySem.Challenge.rw_st0018_01.row.prog w) (ktrTop dp un gd cn cs L a ccd cl outer) (call (.ref 241) [.ref o, .str (ltr i) ti, .str (ltr j) tj]) Q E s := by
  obtain ⟨d, hh, th, nd, h1, h2⟩ := hR.1.ex
  have r1 : root G 10 i < 10 := Nat.lt_of_le_of_lt (root_le K.ok _ _) hi
  have r2 : root G 10 j < 10 := Nat.lt_of_le_of_lt (root_le K.ok _ _) hj
  have n1 := root_none K.ok 10 i hi
  have n2 := root_none K.ok 10 j hj
  revert X
  k_fill
  intro X
  refine wpAny_call ?_
  rcases Nat.lt_trichotomy (root G 10 i) (root G 10 j) with hlt | heq | hgt
  · have hc : cmpI (root G 10 i) (root G 10 j) = -1 := (if_neg (by omega)).trans (if_pos hlt)
    rw [joinG_lt hlt] at hret
    k_dflt cell_enter
    k_steps
    exact hret _ _ _ (by k_asm) (by k_asm) (by assumption)
  · have hc : cmpI (root G 10 i) (root G 10 j) = 0 := (if_neg (by omega)).trans (if_neg (by omega))
    rw [joinG_eq heq] at hret
    k_dflt cell_enter
    k_steps
    exact hret _ _ _ (by k_asm) (by k_asm) ⟨its, n, [], rfl, K, (fun _ h => by cases h), fun _ r => r⟩
  · have hc : cmpI (root G 10 i) (root G 10 j) = 1 := if_pos hgt
    rw [joinG_gt hgt] at hret
    k_dflt cell_enter
    k_steps
    exact hret _ _ _ (by k_asm) (by k_asm) (by assumption)
end Mine
end

section
open PySem PySem.W PyProof.Rows PySem.Calls
/-- the walker's notes of the text before are put away -/
theorem Mine.freshC7 {prog : Program} {w : World} {A : Around} {env : Env} {Q : Flow → Shared → Prop} {E : Value → Shared → Prop} {s : Shared} (h : Q .next s) : wpAny (model prog w) A (execs [] env) Q E s := by
  w_on
  w_top off
  k_with_none
  walk1
  exact h
end
section
open PySem PySem.W PyProof.Rows PySem.Calls
set_option maxRecDepth 100000
set_option maxHeartbeats 8000000
set_option linter.all false
namespace Mine
variable {w : World} {p : Program} {loose : List Str} {mean : ExcName → Option Value} {mg mb : Str → Option Value}
  {dp un : Nat} {gd : Option (List Code)} {cn : Str} {cs : Scope} {a : Addr} {ccd : Value} {cl : List (Str × Addr)} {outer : List Env} {A₀ : Around} {base h₀ : Heap} {L : Addr} {m : Str → Option Value} {news : List (Addr × Obj)} {s : Shared} {Q E : Value → Shared → Prop}
theorem toldC7_1 : True := by
  k_with "cell_enter" => (refine' code_def ?k1 ?k2 ?k3 ?k4 ?k5 ?kA ?kF ?kK ?k6 ?k7 ?k8 ?k9 ?kB ?_ ?c2 ?c3 ?c4 ?c5; (case kA => exact rfl); (case kF => exact rfl); (case kK => assumption); (case k1 => k_asm); (case k2 => k_asm); (case k3 => k_asm); (case k4 => k_asm); (case k5 => k_asm); (case k6 => k_is); (case k7 => k_is); (case k8 => ktr_room); (case k9 => first | exact BindsTo.of_eq rfl | exact binds_K (by k_in) rfl (by k_is) rfl rfl rfl); (case c5 => decide); (case kB => exact locs rfl); (case c2 => exact rfl); (case c3 => exact rfl); (case c4 => exact rfl); k_whole; intro g' L' h' FG' F' N' B' X' T'; (try dsimp only); (try k_lift B'); (try k_fold))
  trivial
theorem toldC7_2 : True := by
  k_with "k_mem" => (refine List.mem_cons_of_mem _ ?_; k_mem)
  trivial

def qd (l : List Nat) : List Nat := dots true (crlf l)
theorem crlf_len : ∀ l : List Nat, (crlf l).length ≤ 2 * l.length := by
  intro l
  induction l using crlf.induct with
  | case1 => simp [crlf]
  | case2 r ih => simp only [crlf, List.length_cons]; omega
  | case3 r h ih => rw [crlf_13 (fun r' e => h r' e)]; simp only [List.length_cons]; omega
  | case4 r ih => simp only [crlf, List.length_cons]; omega
  | case5 c r h1 h2 h3 ih => rw [crlf]; simp only [List.length_cons]; omega; exact h1; exact h2; exact h3
theorem use_sub48 {prog : Program} {A : Around} {x : Str} {tx tr : Tok} (F : Fr h₀ L s.heap m) (N : News h₀ L s.heap news) (p : PatAt h₀ 48 code2) (hx : x.cps.size ≤ 2 ^ 16)
    (hQ : ∀ y h' tk t, Fr h₀ L h' m → News h₀ L h' news → y.cps.toList = crlf x.cps.toList → y.cps.size ≤ 2 ^ 17 → Q (.str y t) { s with heap := h', toks := tk }) :
    wpAny (model prog w) A (call (.builtin "re.Pattern.sub") [.ref 48, .str (PySem.Str.ofString "\r\n") tr, .str x tx]) Q E s := by
  rw [show PySem.Str.ofString "\r\n" = rn from by decide +kernel]
  have sb := subs_crlf x x.cps.size 0 (by omega)
  rw [List.drop_zero] at sb
  refine wp_sub (p.keeps F.keep) (by omega) (by decide) (by decide +kernel) sb fun h' tk t hk => ?_
  refine hQ _ h' tk t (F.grownK hk) (N.grown hk) rfl ?_
  have := crlf_len x.cps.toList
  simp only [Array.length_toList] at this
  simp only [List.size_toArray]
  omega
theorem use_sub43 {prog : Program} {A : Around} {x : Str} {tx tr : Tok} (F : Fr h₀ L s.heap m) (N : News h₀ L s.heap news) (p : PatAt h₀ 43 code1) (hx : x.cps.size ≤ 2 ^ 17)
    (hQ : ∀ h' tk t, Fr h₀ L h' m → News h₀ L h' news → Q (.str ⟨(dots true x.cps.toList).toArray⟩ t) { s with heap := h', toks := tk }) :
    wpAny (model prog w) A (call (.builtin "re.Pattern.sub") [.ref 43, .str (PySem.Str.ofString "..") tr, .str x tx]) Q E s := by
  rw [show PySem.Str.ofString ".." = dd from by decide +kernel]
  have sb := subs_dots x (by omega) x.cps.size 0 (by omega)
  rw [List.drop_zero] at sb
  refine wp_sub (p.keeps F.keep) (by omega) (by decide) (by decide +kernel) sb fun h' tk t hk => ?_
  exact hQ h' tk t (F.grownK hk) (N.grown hk)
theorem toldC7_3 : True := by
  k_with "getMethod ref" => (k_here; (with_reducible show wpAny _ _ (getMethod (Value.ref 43) (PySem.Str.ofString "sub") _) _ _ _); k_dflt (refine' k_pat_method ?k1 ?k2 slot_sub type_sub ?_; (case k1 => k_asm); (case k2 => exact Pats.p43 (by assumption)); k_whole))
  trivial
theorem toldC7_4 : True := by
  k_with "getMethod ref" => (k_here; (with_reducible show wpAny _ _ (getMethod (Value.ref 48) (PySem.Str.ofString "sub") _) _ _ _); k_dflt (refine' k_pat_method ?k1 ?k2 slot_sub type_sub ?_; (case k1 => k_asm); (case k2 => exact Pats.p48 (by assumption)); k_whole))
  trivial
theorem toldC7_5 : True := by
  k_with "call builtin:re.Pattern.sub" => (k_here; (with_reducible show wpAny _ _ (call (Value.builtin _) [Value.ref 48, _, _]) _ _ _); k_dflt (refine' use_sub48 ?k1 ?k2 ?k3 ?k4 ?_; (case k1 => k_asm); (case k2 => k_asm); (case k3 => exact Pats.p48 (by assumption)); (case k4 => assumption); k_whole); intro _ _ _ _ _ _ _ _)
  trivial
theorem toldC7_6 : True := by
  k_with "call builtin:re.Pattern.sub" => (k_here; (with_reducible show wpAny _ _ (call (Value.builtin _) [Value.ref 43, _, _]) _ _ _); k_dflt (refine' use_sub43 ?k1 ?k2 ?k3 ?k4 ?_; (case k1 => k_asm); (case k2 => k_asm); (case k3 => exact Pats.p43 (by assumption)); (case k4 => assumption); k_whole); intro _ _ _ _ _)
  trivial
theorem tQuote {x : Str} {tx : Tok} (B : Below A₀ base outer h₀) (F : Fr h₀ L s.heap m) (X : (Mine.hd.heap_39 w.params).In h₀) (N : News h₀ L s.heap news) (T : Top p loose mean mg mb h₀) (hk : cs.kind = .function)
  (hd : dp + 1 < recursionLimit) (hu : un + 8 < cLine) (hx : x.cps.size ≤ 2 ^ 16)
  (hret : ∀ t h' tk', Fr h₀ L h' m → News h₀ L h' news → Q (.str ⟨(qd x.cps.toList).toArray⟩ t) { s with heap := h', toks := tk' }) :
  wpAny (model PySem.Challenge.rw_st0018_01.row.prog w) (ktrTop dp un gd cn cs L a ccd cl outer) (call (.ref 55) [.str x tx]) Q E s := by
  revert X
  k_fill
  intro X
  refine wpAny_call ?_
  k_dflt cell_enter
  have PT' := pats w _ rfl (by assumption)
  k_steps
  with_reducible (rename _ = crlf _ => hy)
  rw [hy]
  exact hret _ _ _ (by k_asm) (by k_asm)
end Mine
end

section
open PySem PySem.W PyProof.Rows PySem.Calls
/-- the walker's notes of the text before are put away -/
theorem Mine.freshC8 {prog : Program} {w : World} {A : Around} {env : Env} {Q : Flow → Shared → Prop} {E : Value → Shared → Prop} {s : Shared} (h : Q .next s) : wpAny (model prog w) A (execs [] env) Q E s := by
  w_on
  w_top off
  k_with_none
  walk1
  exact h
end
section
open PySem PySem.W PyProof.Rows PySem.Calls
set_option maxRecDepth 100000
set_option maxHeartbeats 8000000
set_option linter.all false
namespace Mine
variable {w : World} {p : Program} {loose : List Str} {mean : ExcName → Option Value} {mg mb : Str → Option Value}
  {dp un : Nat} {gd : Option (List Code)} {cn : Str} {cs : Scope} {a : Addr} {ccd : Value} {cl : List (Str × Addr)} {outer : List Env} {A₀ : Around} {base h₀ : Heap} {L : Addr} {m : Str → Option Value} {news : List (Addr × Obj)} {s : Shared} {Q E : Value → Shared → Prop}
theorem toldC8_1 : True := by
  k_with "cell_enter" => (refine' code_def ?k1 ?k2 ?k3 ?k4 ?k5 ?kA ?kF ?kK ?k6 ?k7 ?k8 ?k9 ?kB ?_ ?c2 ?c3 ?c4 ?c5; (case kA => exact rfl); (case kF => exact rfl); (case kK => assumption); (case k1 => k_asm); (case k2 => k_asm); (case k3 => k_asm); (case k4 => k_asm); (case k5 => k_asm); (case k6 => k_is); (case k7 => k_is); (case k8 => ktr_room); (case k9 => first | exact BindsTo.of_eq rfl | exact binds_K (by k_in) rfl (by k_is) rfl rfl rfl); (case c5 => decide); (case kB => exact locs rfl); (case c2 => exact rfl); (case c3 => exact rfl); (case c4 => exact rfl); k_whole; intro g' L' h' FG' F' N' B' X' T'; (try dsimp only); (try k_lift B'); (try k_fold))
  trivial
theorem toldC8_2 : True := by
  k_with "k_mem" => (refine List.mem_cons_of_mem _ ?_; k_mem)
  trivial
theorem toldC8_3 : True := by
  k_with "ktr_units" => (have hcL9 := cLine_is; ((try simp only [units_under_make, units_in1, units_deeper, Around.mark_units, units_caller] at *); (try dsimp only [ktrTop] at *); omega))
  trivial

theorem head_led {h₀ h : Heap} {L l : Addr} {o : Obj} {rest : List (Addr × Obj)} (N : News h₀ L h ((l, o) :: rest)) : ∃ l', l' = l := ⟨l, rfl⟩
theorem tInit0 {R : Result → Shared → Prop} {o d : Addr} {rest : List (Addr × Obj)} (B : Below A₀ base outer h₀) (F : Fr h₀ L s.heap m) (X : (Mine.hd.heap_39 w.params).In h₀) (N : News h₀ L s.heap ((o, instObj 202 d) :: (d, dictOf [] 0) :: rest)) (T : Top p loose mean mg mb h₀) (hk : cs.kind = .function)
  (hd : dp + 3 < recursionLimit) (hu : un + 24 < cLine) (hod : @LT.lt Nat _ d o) (hoff : OwnOff rest [d])
  (hret : ∀ l news' h' tk', Fr h₀ L h' m → News h₀ L h' news' → HdrAt news' o l → (l, W.listOf #[] 0) ∈ news' → (∀ q ∈ rest, q ∈ news') → R (.ok (.ret .none)) { s with heap := h', toks := tk' }) :
  codeAny (model PySem.Challenge.rw_st0018_01.row.prog w) ((ktrTop dp un gd cn cs L a ccd cl outer).under (.builtin "type.__call__" ⟨[.ref 202], []⟩)) (.call (.ref 94) ⟨[.ref o], []⟩) R s := by
  revert X
  k_fill
  intro X
  k_dflt cell_enter
  k_steps
  with_reducible (rename Fr _ _ _ _ => F9)
  with_reducible (rename News _ _ _ _ => N9)
  obtain ⟨l, el⟩ := head_led N9
  subst el
  refine For_list F9 (l := l) (its := []) (fun i m₁ news₁ => (l, W.listOf #[] 0) ∈ news₁ ∧ HdrAt news₁ o l ∧ (∀ q ∈ rest, q ∈ news₁)) rfl ?hgo ?hkeep ?heval ?turn ?done
  case hgo => exact fun I l' i v s Q E hit hQ => goT hit hQ
  case hkeep =>
    rintro i m₁ news₁ h₁ ⟨hl, _⟩ _ N₁
    exact ⟨_, (N₁ _ hl).1, rfl, _, rfl⟩
  case heval =>
    k_steps
    refine ⟨_, _, _, _, rfl, rfl, by k_asm, by k_asm, .head _, ⟨⟨d, _, _, _, .tail _ (.head _), .tail _ (.tail _ (.head _))⟩⟩, fun q hq => .tail _ (.tail _ (.tail _ hq))⟩
  case turn =>
    intro i v m₁ news₁ own h tk hv
    cases hv
  case done =>
    rintro m₁ news₁ h tk ⟨hl, hH, hr⟩ F₁ N₁
    clear F9 N9
    dsimp only
    k_steps
    exact hret _ _ _ _ (by k_asm) (by k_asm) hH hl hr
theorem toldC8_4 : True := by
  k_with "call ref" => (k_here; (with_reducible show wpAny _ _ (call (Value.ref 101) _ _) _ _ _); k_dflt (refine' use_conv ?k1 ?k2 ?k3 ?k4 ?k5 ?kK ?kd ?ku ?kx ?_; (case k1 => k_asm); (case k2 => k_asm); (case k3 => k_asm); (case k4 => k_asm); (case k5 => k_asm); (case kK => first | exact rfl | assumption); (case kd => ktr_room); (case ku => ktr_units); (case kx => assumption); k_whole); intro _ _ _ _)
  trivial
theorem toldC8_5 : True := by
  k_with "exec For Tuple Name cons nil" => (refine halt ?_)
  trivial

theorem tInit {R : Result → Shared → Prop} {o d l : Addr} {nd n : Nat} {its : List Value} {ps : List (Str × Str)} {rest : List (Addr × Obj)} (B : Below A₀ base outer h₀) (F : Fr h₀ L s.heap m) (X : (Mine.hd.heap_39 w.params).In h₀) (N : News h₀ L s.heap ((o, instObj 202 d) :: (d, dictOf [] 0) :: rest)) (T : Top p loose mean mg mb h₀) (hk : cs.kind = .function)
  (hd : dp + 3 < recursionLimit) (hu : un + 24 < cLine) (hl : (l, W.listOf its.toArray n) ∈ rest) (hrows : RowsAre rest its ps) (hps : ∀ q ∈ ps, CleanS q.1 ∧ CleanS q.2) (hod : @LT.lt Nat _ d o) (hoff : OwnOff rest [d])
  (hret : ∀ news' h' tk', Fr h₀ L h' m → News h₀ L h' news' → HdrAt news' o l → (∀ q ∈ rest, q ∈ news') → R (.ok (.ret .none)) { s with heap := h', toks := tk' }) :
  codeAny (model PySem.Challenge.rw_st0018_01.row.prog w) ((ktrTop dp un gd cn cs L a ccd cl outer).under (.builtin "type.__call__" ⟨[.ref 202, .ref l], []⟩)) (.call (.ref 94) ⟨[.ref o, .ref l], []⟩) R s := by
  revert X
  k_fill
  intro X
  k_dflt cell_enter
  k_steps
  unfold Halt
  with_reducible (rename Fr _ _ _ _ => F9)
  with_reducible (rename News _ _ _ _ => N9)
  refine For_list F9 (l := l) (its := its) (fun i m₁ news₁ => HdrAt news₁ o l ∧ (∀ q ∈ rest, q ∈ news₁) ∧ m₁ "self" = some (.ref o) ∧ m₁ "headers" = some (.ref l)) rfl ?hgo ?hkeep ?heval ?turn ?done
  case hgo => exact fun I l' i v s Q E hit hQ => goT hit hQ
  case hkeep =>
    rintro i m₁ news₁ h₁ ⟨_, hr, _⟩ _ N₁
    exact ⟨_, (N₁ _ (hr _ hl)).1, rfl, _, rfl⟩
  case heval =>
    k_steps
    refine ⟨_, _, _, _, rfl, rfl, by k_asm, by k_asm, ⟨⟨d, _, _, _, .head _, .tail _ (.head _)⟩⟩, fun q hq => .tail _ (.tail _ hq), rfl, rfl⟩
  case turn =>
    rintro i v m₁ news₁ own h tk hv ⟨hH, hr, e1, e2⟩ hoff F₁ N₁
    clear F9 N9
    obtain ⟨b, k, y, t1, t2, nn, hp, rfl, hm⟩ := hrows.at_ i v hv
    rw [known e1, known e2] at F₁
    obtain ⟨d2, hh, th, nd2, h1, h2⟩ := hH.ex
    have h1' := List.mem_append_left own h1
    have h2' := List.mem_append_left own h2
    have hm' : (b, tupObj k t1 y t2 nn) ∈ news₁ ++ own := List.mem_append_left _ (hr _ hm)
    have hck : CleanS k := (hps _ (List.mem_of_getElem? hp)).1
    have hcy : CleanS y := (hps _ (List.mem_of_getElem? hp)).2
    k_steps
    exact turn_next (by k_asm) (by k_asm) hoff ⟨hH, hr, rfl, rfl⟩
  case done =>
    rintro m₁ news₁ h tk ⟨hH, hr, e1, e2⟩ F₁ N₁
    rw [known e1, known e2] at F₁
    dsimp only
    k_steps
    exact hret _ _ _ (by k_asm) (by k_asm) hH hr


end Mine
end

section
open PySem PySem.W PyProof.Rows PySem.Calls
/-- the walker's notes of the text before are put away -/
theorem Mine.freshCp {prog : Program} {w : World} {A : Around} {env : Env} {Q : Flow → Shared → Prop} {E : Value → Shared → Prop} {s : Shared} (h : Q .next s) : wpAny (model prog w) A (execs [] env) Q E s := by
  w_on
  w_top off
  k_with_none
  walk1
  exact h
end
section
open PySem PySem.W PyProof.Rows PySem.Calls
set_option maxRecDepth 100000
set_option linter.all false
namespace Mine
theorem Paired.mono' {α β : Type} {F G : α → β → Prop} (h : ∀ a b, F a b → G a b) : ∀ {l₁ : List α} {l₂ : List β}, Paired F l₁ l₂ → Paired G l₁ l₂
  | _, _, .nil => .nil
  | _, _, .cons x t => .cons (h _ _ x) (Paired.mono' h t)
section
variable {prog : Program} {w : World} {A : Around} {E : Value → Shared → Prop} {s : Shared} {env : Env}
theorem comp_turns {R : Result → Shared → Prop} {elt target iter : Expr} {scope : Scope} {pos : Pos} {it acc : Value} {env : Env} (I : Nat → Shared → Prop)
    (turn : ∀ n s, I n s → wpAny (model prog w) A (pyNext it) (fun r s₁ => match r with
      | none => R (.ok .next) s₁
      | some v => wpAny (model prog w) A (letOwnedTupleGo target it v) (fun _ s₁' => wpAny (model prog w) A (assign target env v) (fun _ s₂ =>
          wpAny (model prog w) A (eval elt env) (fun x s₄ =>
              wpAny (model prog w) A (call (.builtin "list.append") [acc, x]) (fun _ s₅ => ∃ m, m < n ∧ I m s₅) (notedBy (model prog w) A env fun e s' => R (.error e) s') s₄) (notedBy (model prog w) A env fun e s' => R (.error e) s') s₂)
          (notedBy (model prog w) A env fun e s' => R (.error e) s') s₁') (notedBy (model prog w) A env fun e s' => R (.error e) s') s₁) (notedBy (model prog w) A env fun e s' => R (.error e) s') s)
    (n : Nat) (h : I n s) :
    codeAny (model prog w) A (.compLoop (.ListComp elt [⟨target, iter, [], 0⟩] scope pos) 0 it acc env) R s := by
  refine codeAny_loop rfl I (fun n s hI => ?_) n h
  show wpAny _ A ((compTurn (.ListComp elt [⟨target, iter, [], 0⟩] scope pos) 0 it acc env).onRaise (fun x => do noteFrame x env; theTreesLotGoes x)) _ _ s
  refine wpAny_noted ?_
  rw [compTurn_list1]
  refine wpAny_bind (wpAny_standAt (wpAny_bind (wpAny_mono (turn n s hI) (fun r s₁ h₁ => ?_) fun _ _ h' => h')))
  cases r with
  | none => exact wpAny_pure h₁
  | some v =>
    refine wpAny_bind (wpAny_mono h₁ (fun _ s₂ h₂ => ?_) fun _ _ h' => h')
    refine wpAny_bind (wpAny_mono h₂ (fun _ s₃ h₃ => ?_) fun _ _ h' => h')
    exact wpAny_bind (wpAny_bind (wpAny_mono h₃ (fun x s₄ h₄ => wpAny_bind (wpAny_mono h₄ (fun _ s₅ h₅ => wpAny_pure (wpAny_pure ⟨rfl, h₅⟩)) fun _ _ h' => h')) fun _ _ h' => h'))

/-- what holds at each turn -/
inductive CompInv (s₂ : Shared) (St : Nat → Heap → Prop) (P : Nat → Value → Prop) (R : Heap → Value → Value → Prop) (wr : List Addr) (C : Addr) (n k : Nat) (s' : Shared) : Prop
  | mk (h' : Heap) (tk : Nat) (m' : Str → Option Value) (ys : Array Value) (vs : List Value) (x0 : s' = { s₂ with heap := h', toks := tk }) (x1 : St vs.length h') (x2 : h'.PlainList s₂.heap.objs.size ys) (x3 : h'.Ns C m') (x4 : ∀ j v, vs[j]? = some v → P j v)
      (x5 : Paired (R h') vs ys.toList) (x6 : vs.length ≤ n) (x7 : k = n + 1 - vs.length) (x8 : s₂.heap.objs.size + 2 ≤ h'.objs.size) (x9 : ∀ (b : Nat) (o : Obj), b < s₂.heap.objs.size → b ∉ wr → s₂.heap.get? b = some o → h'.get? b = some o) : CompInv s₂ St P R wr C n k s'
/-- a list comprehension without tests, over what walks, its elements told by a relation that later objects keep -/
theorem comp_gen {elt target iter : Expr} {scope : Scope} {cl : List (Str × Addr)} {pos : Pos} {use : Option (Value → Sem Unit)} {Q : Value → Shared → Prop} {s₂ : Shared} {I : Addr} {fp wr : List Addr} {n : Nat} {P : Nat → Value → Prop} {St : Nat → Heap → Prop}
    (W : Walks prog w A I fp wr n P St) (hsz : n ≤ 2 ^ 23) (R : Heap → Value → Value → Prop) (Asg : Value → (Str → Option Value) → Prop)
    (hRk : ∀ h h' v y, (∀ (b : Nat) (o : Obj), s₂.heap.objs.size + 2 ≤ b → h.get? b = some o → h'.get? b = some o) → R h v y → R h' v y)
    (hcell : ∀ y ∈ scope.names, y.2 ≠ .cell) (hkind : scope.kind = .function) (hst : St 0 s₂.heap) (hfp : ∀ b ∈ fp, @LT.lt Nat _ b s₂.heap.objs.size)
    (hgo : ∀ i v (s : Shared) (Q : Unit → Shared → Prop) (E : Value → Shared → Prop), St i s.heap → Q () s → wpAny (model prog w) A (letOwnedTupleGo target (.ref I) v) Q E s)
    (hasg : ∀ C i v (s₃ : Shared) mc (Q : Unit → Shared → Prop) (E : Value → Shared → Prop), P i v → s₃.heap.Ns C mc → (∀ (b : Nat) (o : Obj), b < s₂.heap.objs.size → b ∉ wr → s₂.heap.get? b = some o → s₃.heap.get? b = some o) →
      (∀ h' tk mc', (∀ (b : Nat) (o : Obj), b ≠ C → s₃.heap.get? b = some o → h'.get? b = some o) → h'.Ns C mc' → Asg v mc' → Q () { s₃ with heap := h', toks := tk }) → wpAny (model prog w) A (assign target (compEnvC scope cl C env) v) Q E s₃)
    (helt : ∀ C i v h tk mc (E : Value → Shared → Prop), P i v → h.Ns C mc → Asg v mc → s₂.heap.objs.size + 2 ≤ h.objs.size → (∀ (b : Nat) (o : Obj), b < s₂.heap.objs.size → b ∉ wr → s₂.heap.get? b = some o → h.get? b = some o) →
      wpAny (model prog w) A (eval elt (compEnvC scope cl C env)) (fun y s₄ => ∃ h' tk', s₄ = { s₂ with heap := h', toks := tk' } ∧ Kept h h' ∧ R h' v y) E { s₂ with heap := h, toks := tk })
    (hQ : ∀ D h' tk ys (vs : List Value), s₂.heap.objs.size = D → h'.PlainList D ys → vs.length = n → (∀ j v, vs[j]? = some v → P j v) → Paired (R h') vs ys.toList → s₂.heap.objs.size + 2 ≤ h'.objs.size →
      (∀ (b : Nat) (o : Obj), b < s₂.heap.objs.size → b ∉ wr → s₂.heap.get? b = some o → h'.get? b = some o) → ∀ C m', C = s₂.heap.objs.size + 1 → h'.Ns C m' → compPost (model prog w) A E use Q (.ref D) C (.ok .next) { s₂ with heap := h', toks := tk }) :
    wpAny (model prog w) A (newList []) (fun acc s₃ => wpAny (model prog w) A (newFunctionEnv scope env.globals cl [] env.qual none .none (some env)) (fun cenv s₄ =>
      codeAny (model prog w) A (.compStart (.ListComp elt [⟨target, iter, [], 0⟩] scope pos) 0 (.ref I) acc { cenv with scope := relabel scope env }) (compPost (model prog w) A E use Q acc cenv.locals) s₄) E s₃) E s₂ := by
  refine wpAny_newObj_type (wpAny_newFunctionEnv hcell (by intro y hy; simp at hy) (fun h₁ hns₁ hsb₁ => ?_) hkind)
  dsimp only at hns₁ hsb₁ ⊢
  generalize hH2 : s₂.heap.push { cls := .type "list", dict := none, data := .seq ([] : List Value).toArray } = H2 at hns₁ hsb₁ ⊢
  have hC : H2.objs.size = s₂.heap.objs.size + 1 := by rw [← hH2, Heap.size_push]
  have hDC : s₂.heap.objs.size ≠ H2.objs.size := by rw [hC]; exact Nat.ne_of_lt (Nat.lt_succ_self _)
  have old : ∀ b o, s₂.heap.get? b = some o → h₁.get? b = some o := fun b o e => hsb₁.extBut b o (by rw [hC]; exact Nat.ne_of_lt (Nat.lt_succ_of_lt (Heap.lt_size e))) (Heap.get?_push_of_some _ (hH2 ▸ Heap.get?_push_of_some _ e))
  have hacc : h₁.PlainList s₂.heap.objs.size #[] := ⟨_, hsb₁.extBut _ _ hDC (Heap.get?_push_of_some _ (hH2 ▸ Heap.get?_push_size _ rfl))⟩
  have hst₁ : St 0 h₁ := W.frame _ _ _ hst fun b _ o e => old b o e
  obtain ⟨oC, _, _, hoC, _⟩ := id hns₁
  have hsz₁ : s₂.heap.objs.size + 2 ≤ h₁.objs.size := by
    have := Heap.lt_size hoC
    rw [hC] at this
    exact this
  have hDf : s₂.heap.objs.size ∉ fp := fun hm => Nat.lt_irrefl _ (hfp _ hm)
  have hCf : H2.objs.size ∉ fp := fun hm => by have := hfp _ hm; rw [hC] at this; exact Nat.lt_irrefl _ (Nat.lt_of_succ_lt this)
  have loop : ∀ s₃ : Shared, s₃ = { s₂ with heap := h₁, toks := s₂.toks + ([] : List (Str × Value)).length } →
      codeAny (model prog w) A (.compLoop (.ListComp elt [⟨target, iter, [], 0⟩] scope pos) 0 (.ref I) (.ref s₂.heap.objs.size) (compEnvC scope cl H2.objs.size env))
        (compPost (model prog w) A E use Q (.ref s₂.heap.objs.size) H2.objs.size) s₃ := by
    rintro s₃ rfl
    refine comp_turns
      (CompInv s₂ St P R wr H2.objs.size n) ?_ (n + 1)
      ⟨h₁, _, _, #[], [], rfl, hst₁, hacc, hns₁, by simp, .nil, Nat.zero_le _, rfl, hsz₁, fun b o _ _ e => old b o e⟩
    rintro k s' ⟨h, tk, mc, ys, vs, rfl, st, hD, hn, hP, hF, hi, rfl, hs, hk⟩
    have hysz : ys.size = vs.length := by rw [← Array.length_toList]; exact hF.length.symm
    by_cases hlt : vs.length < n
    · refine W.item vs.length _ _ _ hlt st fun v h₂ tk₂ hPv st₂ hk₂ => ?_
      have hlo : ∀ b ∈ wr, @LT.lt Nat _ b s₂.heap.objs.size := fun b hb => hfp b (W.sub b hb)
      have hsz₂ : s₂.heap.objs.size + 2 ≤ h₂.objs.size := by
        obtain ⟨oC, _, _, hoC, _⟩ := id hn
        have := Heap.lt_size (hk₂ _ _ (fun hb => by have := hlo _ hb; rw [hC] at this; omega) hoC)
        rw [hC] at this; exact this
      have hn₂ : h₂.Ns H2.objs.size mc := hn.at' fun o e => hk₂ _ o (fun hb => by have := hlo _ hb; rw [hC] at this; omega) e
      have hk2 : ∀ (b : Nat) (o : Obj), b < s₂.heap.objs.size → b ∉ wr → s₂.heap.get? b = some o → h₂.get? b = some o := fun b o h1 h2 e => hk₂ b o h2 (hk b o h1 h2 e)
      refine hgo _ v _ _ _ st₂ ?_
      refine hasg _ _ v _ mc _ _ hPv hn₂ hk2 fun h₃ tk₃ mc₃ hk₃ hn₃ hA => ?_
      have hne : ∀ b : Nat, b < s₂.heap.objs.size → b ≠ H2.objs.size := fun b hb => by rw [hC]; omega
      have hk3 : ∀ (b : Nat) (o : Obj), b < s₂.heap.objs.size → b ∉ wr → s₂.heap.get? b = some o → h₃.get? b = some o := fun b o h1 h2 e => hk₃ b o (hne b h1) (hk2 b o h1 h2 e)
      have st₃ : St (vs.length + 1) h₃ := W.frame _ _ _ st₂ fun b hb o e => hk₃ b o (fun q => hCf (q ▸ hb)) e
      have hsz₃ : s₂.heap.objs.size + 2 ≤ h₃.objs.size := by
        obtain ⟨oC, _, _, hoC, _⟩ := id hn₃
        have := Heap.lt_size hoC
        rw [hC] at this; exact this
      have hD₃ : h₃.PlainList s₂.heap.objs.size ys := hD.at fun o e => hk₃ _ o hDC (hk₂ _ o (fun hb => hDf (W.sub _ hb)) e)
      refine wpAny_mono (helt _ _ v h₃ tk₃ mc₃ _ hPv hn₃ hA hsz₃ hk3) (fun y s₄ h₄ => ?_) fun _ _ e => e
      obtain ⟨h₄, tk₄, rfl, hk₄, hR₄⟩ := h₄
      have hD₄ : h₄.PlainList s₂.heap.objs.size ys := hD₃.at fun o e => hk₄ _ o e
      obtain ⟨nD, eD⟩ := id hD₄
      refine wpAny_list_append_plain hD₄ (fun h₅ hD₅ hs₅ => ?_) (by rw [hysz, sizeLine_eq]; omega)
      have hne5 : ∀ (b : Nat) (o : Obj), s₂.heap.objs.size + 2 ≤ b → h₄.get? b = some o → h₅.get? b = some o := fun b o hb e => (hs₅.2 b (neN (by omega))).trans e
      have hF₅ : Paired (R h₅) vs ys.toList := Paired.mono' (fun v' y' hr => hRk h h₅ v' y' (fun b o hb e => hne5 b o hb (hk₄ b o (hk₃ b o (neN (by rw [hC]; omega)) (hk₂ b o (fun hw => by have := hlo b hw; omega) e)))) hr) hF
      have hR₅ : R h₅ v y := hRk h₄ h₅ v y hne5 hR₄
      refine ⟨n + 1 - (vs.length + 1), by omega, h₅, _, mc₃, ys.push y, vs ++ [v], rfl, ?_, hD₅, ?_, ?_, ?_, by simp; omega, by simp, ?_, ?_⟩
      · rw [List.length_append]
        exact W.frame _ _ _ st₃ fun b hb o e => (hs₅.2 b (neN (by have := hfp b hb; omega))).trans (hk₄ b o e)
      · exact (hn₃.keeps hk₄).at' fun o e => (hs₅.2 _ (Ne.symm hDC)).trans e
      · intro j u hj
        rcases Nat.lt_trichotomy j vs.length with q | q | q
        · exact hP j u (by rwa [List.getElem?_append_left q] at hj)
        · subst q; simp at hj; subst hj; exact hPv
        · have hnone : (vs ++ [v])[j]? = none := List.getElem?_eq_none (by rw [List.length_append, List.length_singleton]; omega)
          rw [hnone] at hj; cases hj
      · rw [Array.toList_push]
        exact hF₅.snoc hR₅
      · rw [hs₅.1]
        obtain ⟨oC, _, _, hoC, _⟩ := id hn₃
        have := Heap.lt_size (hk₄ _ _ hoC)
        rw [hC] at this; exact this
      · exact fun b o h1 h2 e => (hs₅.2 b (neN (by omega))).trans (hk₄ b o (hk3 b o h1 h2 e))
    · have hin : vs.length = n := by omega
      have st' := hin ▸ st
      refine W.done _ _ _ st' fun h₂ tk₂ hk₂ => ?_
      have hlo : ∀ b ∈ wr, @LT.lt Nat _ b s₂.heap.objs.size := fun b hb => hfp b (W.sub b hb)
      have hn₂ : h₂.Ns H2.objs.size mc := hn.at' fun o e => hk₂ _ o (fun hb => by have := hlo _ hb; rw [hC] at this; omega) e
      refine hQ _ h₂ tk₂ ys vs rfl (hD.at fun o e => hk₂ _ o (fun hb => hDf (W.sub _ hb)) e) hin hP (Paired.mono' (fun v' y' hr => hRk h h₂ v' y' (fun b o hb e => hk₂ b o (fun hw => by have := hlo b hw; omega) e) hr) hF) ?_ (fun b o h1 h2 e => hk₂ b o h2 (hk b o h1 h2 e)) _ mc hC hn₂
      obtain ⟨oC, _, _, hoC, _⟩ := id hn₂
      have := Heap.lt_size hoC
      rw [hC] at this; exact this
  exact codeAny_compStart_list (loop _ rfl) (W.self 0 _ _ _ hst₁ (loop _ rfl))
end
end Mine
end

section
open PySem PySem.W PyProof.Rows PySem.Calls
/-- the walker's notes of the text before are put away -/
theorem Mine.freshCq {prog : Program} {w : World} {A : Around} {env : Env} {Q : Flow → Shared → Prop} {E : Value → Shared → Prop} {s : Shared} (h : Q .next s) : wpAny (model prog w) A (execs [] env) Q E s := by
  w_on
  w_top off
  k_with_none
  walk1
  exact h
end
section
open PySem PySem.W PyProof.Rows PySem.Calls
set_option maxRecDepth 100000
set_option linter.all false
namespace Mine
section
variable {prog : Program} {w : World} {A : Around} {E : Value → Shared → Prop} {s : Shared} {env : Env} {h₀ : Heap} {L : Addr} {m : Str → Option Value} {news : List (Addr × Obj)}
/-- the elements' relation, past a bound, at a heap -/
abbrev EltRel := Nat → Heap → Value → Value → Prop
/-- later objects keep it -/
def EltRel.Keeps (R : EltRel) : Prop := ∀ (N₀ : Nat) (h h' : Heap) v y, (∀ (b : Nat) (o : Obj), N₀ ≤ b → h.get? b = some o → h'.get? b = some o) → R N₀ h v y → R N₀ h' v y

/-- what an element hands on -/
def EltEnd (s : Shared) (h : Heap) (R : Heap → Value → Prop) (y : Value) (s₄ : Shared) : Prop := ∃ h' tk', s₄ = { s with heap := h', toks := tk' } ∧ Kept h h' ∧ R h' y
/-- what is behind a comprehension whose value is taken -/
theorem list_comp {elt target iter : Expr} {scope : Scope} {cl : List (Str × Addr)} {pos : Pos} {use : Option (Value → Sem Unit)} {Q : Value → Shared → Prop} {l : Addr} {its : List Value} {n : Nat}
    (F : Fr h₀ L s.heap m) (N : News h₀ L s.heap news) (hl : (l, W.listOf its.toArray n) ∈ news) (hh : A.handled = none) (hlen : its.length ≤ 2 ^ 23) (R : EltRel) (hR : R.Keeps) (Asg : Value → (Str → Option Value) → Prop)
    (hcell : ∀ y ∈ scope.names, y.2 ≠ .cell) (hkind : scope.kind = .function)
    (hgo : ∀ I l' i v (s : Shared) (Q : Unit → Shared → Prop) (E : Value → Shared → Prop), s.heap.IsListIter I l' i → Q () s → wpAny (model prog w) A (letOwnedTupleGo target (.ref I) v) Q E s)
    (hasg : ∀ C v (s₃ : Shared) mc (Q : Unit → Shared → Prop) (E : Value → Shared → Prop), v ∈ its → s₃.heap.Ns C mc → (∀ p ∈ news, s₃.heap.get? p.1 = some p.2) →
      (∀ h' tk mc', (∀ (b : Nat) (o : Obj), b ≠ C → s₃.heap.get? b = some o → h'.get? b = some o) → h'.Ns C mc' → Asg v mc' → Q () { s₃ with heap := h', toks := tk }) → wpAny (model prog w) A (assign target (compEnvC scope cl C env) v) Q E s₃)
    (helt : ∀ N₀ C v h tk mc (E : Value → Shared → Prop), v ∈ its → h.Ns C mc → Asg v mc → N₀ ≤ h.objs.size → Fr h₀ L h m → News h₀ L h news →
      wpAny (model prog w) A (eval elt (compEnvC scope cl C env)) (EltEnd s h fun h' y => R N₀ h' v y) E { s with heap := h, toks := tk })
    (hQ : ∀ N₀ D h' tk ys k C m', Fr h₀ L h' m → News h₀ L h' ((D, W.listOf ys k) :: news) → (∀ p ∈ news, @LT.lt Nat _ p.1 D) → @LT.lt Nat _ L D → Paired (R N₀ h') its ys.toList → @LT.lt Nat _ D C → @LT.lt Nat _ C N₀ → h'.Ns C m' → h₀.get? C = none →
      compPost (model prog w) A E use Q (.ref D) C (.ok .next) { s with heap := h', toks := tk }) :
    wpAny (model prog w) A (pyIter (.ref l)) (fun it s₂ => wpAny (model prog w) A (newList []) (fun acc s₃ => wpAny (model prog w) A (newFunctionEnv scope env.globals cl [] env.qual none .none (some env)) (fun cenv s₄ =>
      codeAny (model prog w) A (.compStart (.ListComp elt [⟨target, iter, [], 0⟩] scope pos) 0 it acc { cenv with scope := relabel scope env }) (compPost (model prog w) A E use Q acc cenv.locals) s₄) E s₃) E s₂) E s := by
  have hls : s.heap.IsList l its.toArray := ⟨_, (N _ hl).1, rfl, _, rfl⟩
  refine wpAny_pyIter_list hls ?_
  have hltI : ∀ (b : Nat) (o : Obj), s.heap.get? b = some o → b < s.heap.objs.size := fun b o e => Heap.lt_size e
  have hne : l ≠ s.heap.objs.size := neN (Nat.ne_of_lt (hltI _ _ (N _ hl).1))
  obtain ⟨oL, _, _, hoL, _⟩ := id F.ns
  have W' := Walks.list (prog := prog) (w := w) (A := A) hh s.heap.objs.size l hne its.toArray
  have hlen' : its.toArray.size = its.length := by simp
  rw [hlen'] at W'
  generalize hH : s.heap.push _ = H
  have hsz : H.objs.size = s.heap.objs.size + 1 := by rw [← hH, Heap.size_push]
  have up : ∀ (b : Nat) (o : Obj), s.heap.get? b = some o → H.get? b = some o := fun b o e => hH ▸ Heap.get?_push_of_some _ e
  have old : ∀ h : Heap, (∀ (b : Nat) (o : Obj), b < H.objs.size → b ∉ [s.heap.objs.size] → H.get? b = some o → h.get? b = some o) → ∀ (b : Nat) (o : Obj), s.heap.get? b = some o → h.get? b = some o := fun h k b o e => by
    have := hltI b o e
    exact k b o (by omega) (by simp; omega) (up b o e)
  have frOf : ∀ h : Heap, (∀ (b : Nat) (o : Obj), s.heap.get? b = some o → h.get? b = some o) → Fr h₀ L h m ∧ News h₀ L h news := fun h k => ⟨F.grownK k, N.grown k⟩
  refine comp_gen (s₂ := { s with heap := H }) W' hlen (R (H.objs.size + 2)) Asg (fun h h' v y k r => hR _ h h' v y k r) hcell hkind ?_ ?_ ?_ ?_ ?_ ?_
  · refine ⟨⟨_, by rw [← hH]; exact Heap.get?_push_size _ rfl, rfl, rfl⟩, hls.at fun o e => up _ o e⟩
  · intro b hb
    show @LT.lt Nat _ b H.objs.size
    have hb' : b = s.heap.objs.size ∨ b = l := by simpa using hb
    rcases hb' with rfl | rfl
    · omega
    · have := hltI _ _ (N _ hl).1
      have this' : @LT.lt Nat _ b s.heap.objs.size := this
      omega
  · exact fun i v s Q E st hQ => hgo _ _ _ _ _ _ _ st.1 hQ
  · intro C i v s₃ mc Q E hP hn hk hq
    refine hasg C v s₃ mc Q E (List.mem_of_getElem? (by simpa using hP)) hn (fun p hp => old s₃.heap hk _ _ (N p hp).1) hq
  · intro C i v h tk mc E hP hn hA hs hk
    obtain ⟨F', N'⟩ := frOf h (old h hk)
    exact helt (H.objs.size + 2) C v h tk mc E (List.mem_of_getElem? (by simpa using hP)) hn hA hs F' N'
  · intro D h' tk ys vs hD hpl hvl hvP hF hs hk C m' hC hn
    obtain ⟨F', N'⟩ := frOf h' (old h' hk)
    have hD' : H.objs.size = D := hD
    have hC' : C = H.objs.size + 1 := hC
    have evs : vs = its := by
      apply List.ext_getElem?
      intro j
      by_cases hj : j < its.length
      · have e1 : vs[j]? = some vs[j] := List.getElem?_eq_getElem (by omega)
        have e2 := hvP j _ e1
        rw [e1]
        simpa using e2.symm
      · rw [List.getElem?_eq_none (by omega), List.getElem?_eq_none (by omega)]
    rw [evs] at hF
    obtain ⟨kk, ek⟩ := hpl
    have none_of : ∀ b : Nat, s.heap.objs.size ≤ b → h₀.get? b = none := fun b hb => by
      cases q : h₀.get? b with
      | none => rfl
      | some o => have := hltI b o (F.keep b o q); omega
    have hL' : @LT.lt Nat _ L s.heap.objs.size := hltI _ _ hoL
    refine hQ (H.objs.size + 2) D h' tk ys kk C m' F' ?_ ?_ (by omega) hF (by omega) (by omega) hn (none_of C (by omega))
    · intro p hp
      rcases List.mem_cons.mp hp with rfl | hp
      · exact ⟨ek, neN (by show D ≠ L; omega), none_of D (by omega)⟩
      · exact N' p hp
    · intro p hp
      have := hltI _ _ (N p hp).1
      omega

theorem eval_comp {elt target iter : Expr} {scope : Scope} {cl : List (Str × Addr)} {pos : Pos} {Q : Value → Shared → Prop} {l : Addr} {its : List Value} {n : Nat}
    (F : Fr h₀ L s.heap m) (N : News h₀ L s.heap news) (hl : (l, W.listOf its.toArray n) ∈ news) (hh : A.handled = none) (hlen : its.length ≤ 2 ^ 23) (R : EltRel) (hR : R.Keeps) (Asg : Value → (Str → Option Value) → Prop)
    (hcell : ∀ y ∈ scope.names, y.2 ≠ .cell) (hkind : scope.kind = .function)
    (hgo : ∀ I l' i v (s : Shared) (Q : Unit → Shared → Prop) (E : Value → Shared → Prop), s.heap.IsListIter I l' i → Q () s → wpAny (model prog w) A (letOwnedTupleGo target (.ref I) v) Q E s)
    (hclos : closureFor scope env = pure cl) (hnames : ∀ x ∈ scope.names, x.2 = .local → scope.names.lookup x.1 = some .local)
    (heval : wpAny (model prog w) A (eval iter env) (EvalEnd h₀ L l (fun m₀ news₀ => m₀ = m ∧ news₀ = news) s) E s)
    (hasg : ∀ C v (s₃ : Shared) mc (Q : Unit → Shared → Prop) (E : Value → Shared → Prop), v ∈ its → s₃.heap.Ns C mc → (∀ p ∈ news, s₃.heap.get? p.1 = some p.2) →
      (∀ h' tk mc', (∀ (b : Nat) (o : Obj), b ≠ C → s₃.heap.get? b = some o → h'.get? b = some o) → h'.Ns C mc' → Asg v mc' → Q () { s₃ with heap := h', toks := tk }) → wpAny (model prog w) A (assign target (compEnvC scope cl C env) v) Q E s₃)
    (helt : ∀ N₀ C v h tk mc (E : Value → Shared → Prop), v ∈ its → h.Ns C mc → Asg v mc → N₀ ≤ h.objs.size → Fr h₀ L h m → News h₀ L h news →
      wpAny (model prog w) A (eval elt (compEnvC scope cl C env)) (EltEnd s h fun h' y => R N₀ h' v y) E { s with heap := h, toks := tk })
    (hQ : ∀ N₀ D h' tk ys k, Fr h₀ L h' m → News h₀ L h' ((D, W.listOf ys k) :: news) → (∀ p ∈ news, @LT.lt Nat _ p.1 D) → Paired (R N₀ h') its ys.toList → @LT.lt Nat _ D N₀ → Q (.ref D) { s with heap := h', toks := tk })
    (hs : ∀ x, foldedSetIterable iter env x = pure x := by intro _; rfl) :
    wpAny (model prog w) A (eval (.ListComp elt [⟨target, iter, [], 0⟩] scope pos) env) Q E s := by
  rw [eval_ListComp]
  refine wpAny_comprehension_free (use := none) rfl hs hclos hkind hnames (wpAny_mono heval (fun xv s₁ h₁ => ?_) fun _ _ e => e)
  obtain ⟨h₁, tk₁, m₁, news₁, rfl, rfl, F₁, N₁, rfl, rfl⟩ := h₁
  refine list_comp F₁ N₁ hl hh hlen R hR Asg hcell hkind hgo hasg helt ?_
  intro N₀ D h' tk ys k C m' F' N' hlt hLD hF hDC hCN hn hC0
  refine ⟨m', hn, fun h'' hs'' => ?_⟩
  have hCL : C ≠ L := neN (by omega)
  refine hQ N₀ D h'' tk ys k (F'.change hs'' hCL hC0) ?_ hlt (Paired.mono' (fun v y r => hR N₀ h' h'' v y (fun b o hb e => (hs''.2 b (neN (by omega))).trans e) r) hF) (by omega)
  intro p hp
  have hpC : p.1 ≠ C := by
    rcases List.mem_cons.mp hp with rfl | hp
    · exact neN (by show @Ne Nat D C; omega)
    · have := hlt p hp
      exact neN (by omega)
  exact ⟨(hs''.2 _ hpC).trans (N' p hp).1, (N' p hp).2⟩

theorem asg_name {x : Str} {px : Pos} {scope : Scope} {cl : List (Str × Addr)} {C : Addr} {v : Value} {s₃ : Shared} {mc : Str → Option Value} {Q : Unit → Shared → Prop} {E : Value → Shared → Prop} (hx : (compEnvC scope cl C env).kindOf x = some .local) (hk : scope.kind = .function) (hn : s₃.heap.Ns C mc)
    (hq : ∀ h' tk mc', (∀ (b : Nat) (o : Obj), b ≠ C → s₃.heap.get? b = some o → h'.get? b = some o) → h'.Ns C mc' → mc' x = some v → Q () { s₃ with heap := h', toks := tk }) :
    wpAny (model prog w) A (assign (.Name x px) (compEnvC scope cl C env) v) Q E s₃ := by
  refine wpAny_assign_Name (wpAny_storeName_local hx hn (fun h₂ hn₂ hs₂ => ?_) ?_)
  · exact hq h₂ _ _ (fun b o hb e => (hs₂.2 b hb).trans e) hn₂ (by simp)
  · show ((relabel scope env).kind == .class || ((relabel scope env).kind == .module && _)) = false
    have : (relabel scope env).kind = .function := hk
    rw [this]; rfl
end
end Mine
end

section
open PySem PySem.W PyProof.Rows PySem.Calls
/-- the walker's notes of the text before are put away -/
theorem Mine.freshC9 {prog : Program} {w : World} {A : Around} {env : Env} {Q : Flow → Shared → Prop} {E : Value → Shared → Prop} {s : Shared} (h : Q .next s) : wpAny (model prog w) A (execs [] env) Q E s := by
  w_on
  w_top off
  k_with_none
  walk1
  exact h
end
section
open PySem PySem.W PyProof.Rows PySem.Calls
set_option maxRecDepth 100000
set_option maxHeartbeats 8000000
set_option linter.all false
namespace Mine
variable {w : World} {p : Program} {loose : List Str} {mean : ExcName → Option Value} {mg mb : Str → Option Value}
  {dp un : Nat} {gd : Option (List Code)} {cn : Str} {cs : Scope} {a : Addr} {ccd : Value} {cl : List (Str × Addr)} {outer : List Env} {A₀ : Around} {base h₀ : Heap} {L : Addr} {m : Str → Option Value} {news : List (Addr × Obj)} {s : Shared} {Q E : Value → Shared → Prop}
theorem toldC9_1 : True := by
  k_with "cell_enter" => (refine' code_def ?k1 ?k2 ?k3 ?k4 ?k5 ?kA ?kF ?kK ?k6 ?k7 ?k8 ?k9 ?kB ?_ ?c2 ?c3 ?c4 ?c5; (case kA => exact rfl); (case kF => exact rfl); (case kK => assumption); (case k1 => k_asm); (case k2 => k_asm); (case k3 => k_asm); (case k4 => k_asm); (case k5 => k_asm); (case k6 => k_is); (case k7 => k_is); (case k8 => ktr_room); (case k9 => first | exact BindsTo.of_eq rfl | exact binds_K (by k_in) rfl (by k_is) rfl rfl rfl); (case c5 => decide); (case kB => exact locs rfl); (case c2 => exact rfl); (case c3 => exact rfl); (case c4 => exact rfl); k_whole; intro g' L' h' FG' F' N' B' X' T'; (try dsimp only); (try k_lift B'); (try k_fold))
  trivial
theorem toldC9_2 : True := by
  k_with "k_mem" => (refine List.mem_cons_of_mem _ ?_; k_mem)
  trivial
theorem toldC9_3 : True := by
  k_with "ktr_units" => (have hcL9 := cLine_is; ((try simp only [units_under_make, units_in1, units_deeper, Around.mark_units, units_caller] at *); (try dsimp only [ktrTop] at *); omega))
  trivial

def rowS (q : Str × Str) : Str := q.1 ++ PySem.Str.ofString ": " ++ q.2
theorem RowsAre.head {v : Value} {its : List Value} {ps : List (Str × Str)} (r : RowsAre news (v :: its) ps) : ∃ q ps', ps = q :: ps' ∧ RowsAre news its ps' ∧ ∃ b t u n, v = .ref b ∧ (b, tupObj q.1 t q.2 u n) ∈ news := by
  cases ps with
  | nil => have := r.len; simp at this
  | cons q ps' =>
    refine ⟨q, ps', rfl, ⟨by have := r.len; simpa using this, fun i v hv => ?_⟩, ?_⟩
    · obtain ⟨b, k, x, t, u, n, h1, h2, h3⟩ := r.at_ (i + 1) v (by simpa using hv)
      exact ⟨b, k, x, t, u, n, by simpa using h1, h2, h3⟩
    · obtain ⟨b, k, x, t, u, n, h1, h2, h3⟩ := r.at_ 0 v rfl
      have : q = (k, x) := by simpa using h1
      subst this
      exact ⟨b, t, u, n, h2, h3⟩
theorem tup_same {h : Heap} {b : Addr} {k x k' x' : Str} {t u t' u' : Tok} {n n' : Nat} (N : News h₀ L h news) (h1 : (b, tupObj k t x u n) ∈ news) (h2 : (b, tupObj k' t' x' u' n') ∈ news) : k = k' ∧ x = x' := by
  have e := (N _ h1).1.symm.trans (N _ h2).1
  have e1 := congrArg (fun o => match o with | some (o : Obj) => o.data | none => .plain) e
  simp only [tupObj] at e1
  injection e1 with e2 e3
  have e4 := congrArg Array.toList e2
  simp at e4
  exact ⟨e4.1.1, e4.2.1⟩
theorem rows_out {h : Heap} (N : News h₀ L h news) {R : Value → Value → Prop} (hR : ∀ v y, R v y → ∃ b k x t u nn, v = .ref b ∧ (b, tupObj k t x u nn) ∈ news ∧ ∃ tk, y = .str (rowS (k, x)) tk) :
    ∀ {its ys : List Value} {ps : List (Str × Str)}, RowsAre news its ps → Paired R its ys → ∃ rt : List (Str × Tok), ys = strValues rt ∧ rt.map (·.1) = ps.map rowS
  | _, _, ps, r, .nil => by
    have := r.len
    have : ps = [] := by cases ps with | nil => rfl | cons => simp at this
    subst this
    exact ⟨[], rfl, rfl⟩
  | _, _, ps, r, .cons h1 t => by
    obtain ⟨q, ps', rfl, r', b, t1, u1, n1, rfl, hm⟩ := r.head
    obtain ⟨rt, rfl, e2⟩ := rows_out N hR r' t
    obtain ⟨b', k, x, t2, u2, n2, e3, hm', tk, rfl⟩ := hR _ _ h1
    cases e3
    obtain ⟨ek, ex⟩ := tup_same N hm hm'
    refine ⟨(rowS (k, x), tk) :: rt, rfl, ?_⟩
    rw [List.map_cons, List.map_cons, e2, ← ek, ← ex]
theorem use_add {prog : Program} {A : Around} {l b : Addr} {n n' : Nat} {its its2 : Array Value} (F : Fr h₀ L s.heap m) (N : News h₀ L s.heap news) (hl : (l, W.listOf its n) ∈ news) (hb : (b, W.listOf its2 n') ∈ news) (hsz : its.size + its2.size ≤ sizeLine)
    (h : ∀ D h', Fr h₀ L h' m → News h₀ L h' ((D, W.listOf (its.toList ++ its2.toList).toArray 0) :: news) → Q (.ref D) { s with heap := h' }) :
    wpAny (model prog w) A (binaryOp .Add (.ref l) (.ref b)) Q E s :=
  add_arrays F N ⟨_, (N _ hl).1, rfl, _, rfl⟩ ⟨_, (N _ hb).1, rfl, _, rfl⟩ (fun h' F' N' => h _ h' F' N') hsz
theorem use_join {prog : Program} {A : Around} {D : Addr} {n : Nat} {rt : List (Str × Tok)} {tx : Tok} (F : Fr h₀ L s.heap m) (N : News h₀ L s.heap news) (hl : (D, W.listOf (strValues rt).toArray n) ∈ news) (hw : (rt.map fun p => p.1.length).sum + 2 * rt.length ≤ 16777216)
    (h : ∀ t k, Q (.str (Str.join rn (rt.map (·.1))) t) { s with toks := k }) : wpAny (model prog w) A (call (.builtin "str.join") [.str (PySem.Str.ofString "\r\n") tx, .ref D]) Q E s := by
  rw [show PySem.Str.ofString "\r\n" = rn from by decide +kernel]
  refine SC.join (D := D) (l := rt) ⟨_, (N _ hl).1, rfl, n, rfl⟩ rfl (PyProof.Rows.joinOk_of ?_) fun t k => ?_
  · rw [List.map_map, List.length_map]
    have : rn.length = 2 := rfl
    rw [this, Nat.mul_comm]
    exact hw
  · have e : Txt.join rn (rt.map (·.1)) = Str.join rn (rt.map (·.1)) := by
      show Builtin.Str.glued _ _ = _
      rw [StrLaws.glued_eq_join]
    rw [e]
    exact h t k
/-- a table's page -/
def pageS (ps : List (Str × Str)) : Str := Str.join rn (ps.map rowS ++ [Str.empty, Str.empty])

theorem toldC9_4 : True := by
  k_with "eval ListComp" => (refine halt ?_)
  trivial
theorem tStr {o l : Addr} {n : Nat} {its : List Value} {ps : List (Str × Str)} (B : Below A₀ base outer h₀) (F : Fr h₀ L s.heap m) (X : (Mine.hd.heap_39 w.params).In h₀) (N : News h₀ L s.heap news) (T : Top p loose mean mg mb h₀) (hk : cs.kind = .function)
  (hd : dp + 3 < recursionLimit) (hu : un + 24 < cLine) (ho : HdrAt news o l) (hl : (l, W.listOf its.toArray n) ∈ news) (hrows : RowsAre news its ps) (hps : ∀ q ∈ ps, CleanS q.1 ∧ CleanS q.2) (hlen : ps.length ≤ 50)
  (hret : ∀ t h' tk', 1 ≤ tk' → Fr h₀ L h' m → News h₀ L h' news → Q (.str (pageS ps) t) { s with heap := h', toks := tk' }) :
  wpAny (model PySem.Challenge.rw_st0018_01.row.prog w) (ktrTop dp un gd cn cs L a ccd cl outer) (call (.ref 178) [.ref o]) Q E s := by
  obtain ⟨d, hh, th, nd, h1, h2⟩ := ho.ex
  revert X
  k_fill
  intro X
  refine wpAny_call ?_
  k_dflt cell_enter
  refine wpAny_with_toks (n := 1) (Nat.le_add_left _ _) ?_
  k_steps
  unfold Halt
  with_reducible (rename Fr _ _ _ _ => F9)
  with_reducible (rename News _ _ _ _ => N9)
  refine eval_comp (cl := []) F9 N9 hl rfl (by rw [hrows.len]; omega) (fun _ _ v y => ∃ b k x t u nn, v = .ref b ∧ (b, tupObj k t x u nn) ∈ news ∧ ∃ tk, y = .str (rowS (k, x)) tk) (fun _ _ _ _ _ _ r => r) (fun v mc => mc "kv" = some v) (by decide) rfl (fun I l' i v s Q E hit hQ => goN hQ) rfl (by decide) ?heval ?hasg ?helt ?hQ
  case heval =>
    k_steps
    exact ⟨_, _, _, _, rfl, rfl, by k_asm, by k_asm, rfl, rfl⟩
  case hasg =>
    intro C v s₃ mc Q E hv hn _ hq
    exact asg_name rfl rfl hn hq
  case helt =>
    intro N₀ C v h tk mc E hv hn hA hs F₁ N₁
    obtain ⟨i, hi⟩ := List.mem_iff_getElem?.mp hv
    obtain ⟨b, k, x, t1, t2, nn, hp, rfl, hm⟩ := hrows.at_ i v hi
    have hc := hps _ (List.mem_of_getElem? hp)
    have lk : k.length ≤ 65536 := hc.1.1
    have lx : x.length ≤ 65536 := hc.2.1
    refine wpAny_BinOp (wpAny_Constant_str (wpAny_Name (wpAny_loadName_local rfl rfl hn hA ?_)))
    clear F9 N9
    k_steps
    exact ⟨_, _, rfl, fun _ _ e => e, b, k, x, t1, t2, nn, rfl, hm, _, rfl⟩
  case hQ =>
    intro N₀ D h' tk ys k F₁ N₁ hlt hF hDN
    obtain ⟨rt, e1, e2⟩ := rows_out N9 (fun v y h => h) hrows hF
    clear F9 N9 hF
    have e3 : ys = (strValues rt).toArray := by rw [← e1]
    subst e3
    have hrl : rt.length = ps.length := by have := congrArg List.length e2; simpa using this
    dsimp only
    k_steps
    refine use_add (by k_asm) (by k_asm) (by k_dflt k_mem) (by k_dflt k_mem) (by rw [sizeLine_eq]; simp [strValues]; omega) ?_
    intro D3 h3 F3 N3
    dsimp only
    have eT : ((strValues rt).toArray.toList ++ #[Value.str (PySem.Str.ofString "") tk, Value.str (PySem.Str.ofString "") (tk + 1)].toList).toArray = (strValues (rt ++ [(PySem.Str.ofString "", tk), (PySem.Str.ofString "", tk + 1)])).toArray := by simp [strValues]
    rw [eT] at N3
    k_steps
    refine use_join (D := D3) (rt := rt ++ [(PySem.Str.ofString "", tk), (PySem.Str.ofString "", tk + 1)]) (by k_asm) (by k_asm) (by k_dflt k_mem) ?_ ?_
    · have hsum : ∀ (l : List (Str × Tok)) (q : List (Str × Str)), l.map (·.1) = q.map rowS → (∀ p ∈ q, CleanS p.1 ∧ CleanS p.2) → (l.map fun p => p.1.length).sum ≤ 131074 * q.length := by
        intro l
        induction l with
        | nil => intro q e _; simp
        | cons p l ih =>
          intro q e hc
          cases q with
          | nil => simp at e
          | cons x q =>
            have e1 : p.1 = rowS x := by simpa using (List.cons.inj e).1
            have e2 := ih q (List.cons.inj e).2 fun y hy => hc y (List.mem_cons_of_mem _ hy)
            have c1 : x.1.length ≤ 65536 := (hc x (List.mem_cons_self ..)).1.1
            have c2 : x.2.length ≤ 65536 := (hc x (List.mem_cons_self ..)).2.1
            have hl : p.1.length = x.1.length + 2 + x.2.length := by
              rw [e1]
              show (x.1 ++ PySem.Str.ofString ": " ++ x.2).length = _
              rw [Str.length_append, Str.length_append]
              rfl
            rw [List.map_cons, List.sum_cons, List.length_cons]
            omega
      have hs := hsum rt ps e2 hps
      have hz : (PySem.Str.ofString "").length = 0 := rfl
      rw [List.map_append, List.sum_append, List.length_append]
      simp only [List.map_cons, List.map_nil, List.sum_cons, List.sum_nil, hz, List.length_cons, List.length_nil]
      omega
    · intro t9 k9
      k_steps
      have eP : Str.join rn ((rt ++ [(PySem.Str.ofString "", tk), (PySem.Str.ofString "", tk + 1)]).map (·.1)) = pageS ps := by
        rw [List.map_append, e2]
        rfl
      rw [eP]
      refine hret _ _ _ (by assumption) (by k_asm) ?_
      exact cb_drop (by k_asm) (fun p hp => .tail _ (.tail _ (.tail _ hp)))
end Mine
end

section
open PySem PySem.W PyProof.Rows PySem.Calls
/-- the walker's notes of the text before are put away -/
theorem Mine.freshC10 {prog : Program} {w : World} {A : Around} {env : Env} {Q : Flow → Shared → Prop} {E : Value → Shared → Prop} {s : Shared} (h : Q .next s) : wpAny (model prog w) A (execs [] env) Q E s := by
  w_on
  w_top off
  k_with_none
  walk1
  exact h
end
section
open PySem PySem.W PyProof.Rows PySem.Calls
set_option maxRecDepth 100000
set_option maxHeartbeats 8000000
set_option linter.all false
namespace Mine
variable {w : World} {p : Program} {loose : List Str} {mean : ExcName → Option Value} {mg mb : Str → Option Value}
  {dp un : Nat} {gd : Option (List Code)} {cn : Str} {cs : Scope} {a : Addr} {ccd : Value} {cl : List (Str × Addr)} {outer : List Env} {A₀ : Around} {base h₀ : Heap} {L : Addr} {m : Str → Option Value} {news : List (Addr × Obj)} {s : Shared} {Q E : Value → Shared → Prop}
theorem toldC10_1 : True := by
  k_with "cell_enter" => (refine' code_def ?k1 ?k2 ?k3 ?k4 ?k5 ?kA ?kF ?kK ?k6 ?k7 ?k8 ?k9 ?kB ?_ ?c2 ?c3 ?c4 ?c5; (case kA => exact rfl); (case kF => exact rfl); (case kK => assumption); (case k1 => k_asm); (case k2 => k_asm); (case k3 => k_asm); (case k4 => k_asm); (case k5 => k_asm); (case k6 => k_is); (case k7 => k_is); (case k8 => ktr_room); (case k9 => first | exact BindsTo.of_eq rfl | exact binds_K (by k_in) rfl (by k_is) rfl rfl rfl); (case c5 => decide); (case kB => exact locs rfl); (case c2 => exact rfl); (case c3 => exact rfl); (case c4 => exact rfl); k_whole; intro g' L' h' FG' F' N' B' X' T'; (try dsimp only); (try k_lift B'); (try k_fold))
  trivial
theorem toldC10_2 : True := by
  k_with "k_mem" => (refine List.mem_cons_of_mem _ ?_; k_mem)
  trivial
theorem toldC10_3 : True := by
  k_with "ktr_units" => (have hcL9 := cLine_is; ((try simp only [units_under_make, units_in1, units_deeper, Around.mark_units, units_caller] at *); (try dsimp only [ktrTop] at *); omega))
  trivial

/-- a ruler -/
def rulerOf (f sz : Nat) : List Int := [[(sz : Int), 0], [(sz : Int)], [(sz : Int), 127, 1], [(sz : Int), 0, 1], [(sz : Int), (sz : Int)], [(sz : Int), 127], [0, (sz : Int)], [127, (sz : Int)]].getD f []
/-- what is told of it: how often -/
def manyOf (f sz n : Nat) : Int := [(((n : Int) - 1).fdiv sz + 1 : Int), 1, 1, ((n : Int) - 1).fdiv sz + 1, if ((n : Int) - 1).fdiv sz + 1 < 2 then ((n : Int) - 1).fdiv sz + 1 else 2, 1, -1, 0].getD f 0
/-- a grown ledger: the old entries stay, each new one lies past them -/
structure Grew (news news' : List (Addr × Obj)) : Prop where
  sub : ∀ p ∈ news, p ∈ news'
  past : ∀ p ∈ news', p ∈ news ∨ ∀ q ∈ news, @LT.lt Nat _ q.1 p.1
theorem Grew.rfl' (news : List (Addr × Obj)) : Grew news news := ⟨fun _ h => h, fun _ h => .inl h⟩
theorem Grew.cons {news' : List (Addr × Obj)} {p : Addr × Obj} (g : Grew news news') (h : ∀ q ∈ news, @LT.lt Nat _ q.1 p.1) : Grew news (p :: news') :=
  ⟨fun q hq => .tail _ (g.sub q hq), fun q hq => by
    rcases List.mem_cons.mp hq with rfl | hq
    · exact .inr h
    · exact g.past q hq⟩
theorem allLt_all {D : Nat} : ∀ {news : List (Addr × Obj)}, AllLt D news → ∀ q ∈ news, @LT.lt Nat _ q.1 D := by
  intro news
  induction news with
  | nil => intro _ q hq; cases hq
  | cons p l ih =>
    intro h q hq
    have h' : p.1 < D ∧ AllLt D l := h
    rcases List.mem_cons.mp hq with rfl | hq
    · exact h'.1
    · exact ih h'.2 q hq
theorem toldC10_4 : True := by
  k_with "subscriptTail Name BinOp ref int" => (refine halt ?_)
  trivial
theorem tRuler {N₁ : Int} {f sz : Nat} {t : Tok} (B : Below A₀ base outer h₀) (F : Fr h₀ L s.heap m) (X : (Mine.hd.heap_39 w.params).In h₀) (N : News h₀ L s.heap news) (T : Top p loose mean mg mb h₀) (hk : cs.kind = .function)
  (hd : dp + 1 < recursionLimit) (hu : un + 8 < cLine) (hz : 2 + N₁.fmod 5 = (sz : Int)) (hf : (N₁.fdiv 5).fmod 8 = (f : Int)) (hf8 : f < 8)
  (hret : ∀ D its n news' h' tk', Fr h₀ L h' m → News h₀ L h' news' → (∀ p ∈ news, p ∈ news') → (D, W.listOf (List.toArray its) n) ∈ news' → IntsAre its (rulerOf f sz) → (∀ q ∈ news, @LT.lt Nat _ q.1 D) → Q (.ref D) { s with heap := h', toks := tk' }) :
  wpAny (model PySem.Challenge.rw_st0018_01.row.prog w) (ktrTop dp un gd cn cs L a ccd cl outer) (call (.ref 220) [.int N₁ t]) Q E s := by
  revert X
  k_fill
  intro X
  refine wpAny_call ?_
  k_dflt cell_enter
  k_steps
  unfold Halt
  with_reducible (rename News _ _ _ _ => N9)
  rw [hz] at N9
  rw [hf]
  have h8 : f = 0 ∨ f = 1 ∨ f = 2 ∨ f = 3 ∨ f = 4 ∨ f = 5 ∨ f = 6 ∨ f = 7 := by omega
  rcases h8 with rfl | rfl | rfl | rfl | rfl | rfl | rfl | rfl
  all_goals
    refine item_list (x := _) ⟨_, (N9 _ (.head _)).1, rfl, _, rfl⟩ (by decide) (by decide) rfl ?_ rfl (by intro _; rfl)
    k_steps
    refine hret _ _ _ _ _ _ (by k_asm) (by k_asm) (fun p hp => .tail _ (.tail _ (.tail _ (.tail _ (.tail _ (.tail _ (.tail _ (.tail _ (.tail _ hp))))))))) (show (_, W.listOf (List.toArray _) _) ∈ _ from by k_mem) (by first | exact .cons _ _ .nil | exact .cons _ _ (.cons _ _ .nil) | exact .cons _ _ (.cons _ _ (.cons _ _ .nil))) (by first | assumption | exact allLt_all (show _ ∧ AllLt _ news by assumption).2 | exact allLt_all (show _ ∧ _ ∧ AllLt _ news by assumption).2.2 | exact allLt_all (show _ ∧ _ ∧ _ ∧ AllLt _ news by assumption).2.2.2 | exact allLt_all (show _ ∧ _ ∧ _ ∧ _ ∧ AllLt _ news by assumption).2.2.2.2 | exact allLt_all (show _ ∧ _ ∧ _ ∧ _ ∧ _ ∧ AllLt _ news by assumption).2.2.2.2.2 | exact allLt_all (show _ ∧ _ ∧ _ ∧ _ ∧ _ ∧ _ ∧ AllLt _ news by assumption).2.2.2.2.2.2 | exact allLt_all (show _ ∧ _ ∧ _ ∧ _ ∧ _ ∧ _ ∧ _ ∧ AllLt _ news by assumption).2.2.2.2.2.2.2 | exact allLt_all (show _ ∧ _ ∧ _ ∧ _ ∧ _ ∧ _ ∧ _ ∧ _ ∧ AllLt _ news by assumption).2.2.2.2.2.2.2.2)
theorem toldC10_5 : True := by
  k_with "binaryOp FloorDiv int int" => (k_here; refine floordiv_int ?kb ?kc (Or.inl (PyProof.noPylong_of_log2 ?kp)); (case kb => omega); (case kp => refine halt ?_))
  trivial
theorem toldC10_6 : True := by
  k_with "binaryOp Mult ref int" => (refine halt ?_)
  trivial
theorem tTold {N₁ : Int} {n f sz : Nat} {t u : Tok} (B : Below A₀ base outer h₀) (F : Fr h₀ L s.heap m) (X : (Mine.hd.heap_39 w.params).In h₀) (N : News h₀ L s.heap news) (T : Top p loose mean mg mb h₀) (hk : cs.kind = .function)
  (hd : dp + 1 < recursionLimit) (hu : un + 8 < cLine) (hz : 2 + N₁.fmod 5 = (sz : Int)) (hf : (N₁.fdiv 5).fmod 8 = (f : Int)) (hf8 : f < 8) (hz2 : 2 ≤ sz) (hz6 : sz ≤ 6) (hn1 : 1 ≤ n) (hn : n ≤ 10)
  (hno : manyOf f sz n < 0 → ∀ h' tk', Fr h₀ L h' m → News h₀ L h' news → Q .none { s with heap := h', toks := tk' })
  (hret : 0 ≤ manyOf f sz n → ∀ D its n' news' h' tk', Fr h₀ L h' m → News h₀ L h' news' → (∀ p ∈ news, p ∈ news') → (D, W.listOf (List.toArray its) n') ∈ news' → IntsAre its (List.replicate (manyOf f sz n).toNat (sz : Int)) → Q (.ref D) { s with heap := h', toks := tk' }) :
  wpAny (model PySem.Challenge.rw_st0018_01.row.prog w) (ktrTop dp un gd cn cs L a ccd cl outer) (call (.ref 227) [.int N₁ t, .int n u]) Q E s := by
  revert X
  k_fill
  intro X
  refine wpAny_call ?_
  k_dflt cell_enter
  k_steps
  · with_reducible (rename Fr _ _ _ _ => F9)
    with_reducible (rename News _ _ _ _ => N9)
    refine hno ?_ _ _ F9 (cb_drop N9 (fun p hp => .tail _ hp))
    have hlt := ‹List.getD _ _ _ < (0 : Int)›
    rw [hz, hf] at hlt
    exact hlt
  · unfold Halt
    with_reducible (rename Fr _ _ _ _ => F9)
    with_reducible (rename News _ _ _ _ => N9)
    have hge : 0 ≤ manyOf f sz n := by
      have hlt := ‹¬ List.getD _ _ _ < (0 : Int)›
      rw [hz, hf] at hlt
      exact Int.not_lt.mp hlt
    rw [hz] at N9
    rw [hz, hf]
    show wpAny _ _ (binaryOp Operator.Mult _ (Value.int (manyOf f sz n) _)) _ _ _
    have hmany : manyOf f sz n ≤ 10 := by
      have hq : ((n : Int) - 1).fdiv sz ≤ 9 := by
        have e1 : ((n : Int) - 1).fdiv sz = ((n : Int) - 1) / sz := Int.fdiv_eq_ediv_of_nonneg _ (by omega)
        have e2 : ((n : Int) - 1) / sz ≤ (n : Int) - 1 := Int.ediv_le_self _ (by omega)
        omega
      have h8 : f = 0 ∨ f = 1 ∨ f = 2 ∨ f = 3 ∨ f = 4 ∨ f = 5 ∨ f = 6 ∨ f = 7 := by omega
      rcases h8 with rfl | rfl | rfl | rfl | rfl | rfl | rfl | rfl
      · show ((n : Int) - 1).fdiv sz + 1 ≤ 10; omega
      · show (_ : Int) ≤ 10; exact (show (manyOf _ sz n : Int) ≤ 10 from by simp [manyOf])
      · show (_ : Int) ≤ 10; exact (show (manyOf _ sz n : Int) ≤ 10 from by simp [manyOf])
      · show ((n : Int) - 1).fdiv sz + 1 ≤ 10; omega
      · show (if ((n : Int) - 1).fdiv sz + 1 < 2 then ((n : Int) - 1).fdiv sz + 1 else 2) ≤ 10
        split <;> omega
      · show (_ : Int) ≤ 10; exact (show (manyOf _ sz n : Int) ≤ 10 from by simp [manyOf])
      · show (_ : Int) ≤ 10; exact (show (manyOf _ sz n : Int) ≤ 10 from by simp [manyOf])
      · show (_ : Int) ≤ 10; exact (show (manyOf _ sz n : Int) ≤ 10 from by simp [manyOf])
    refine KMa.mul F9 N9 ⟨_, (N9 _ (.head _)).1, rfl, _, rfl⟩ (by omega) (by omega) (by simp only [List.length_cons, List.length_nil]; omega) rfl ?_
    intro D h1 F1 N1 _
    k_steps
    refine hret hge _ _ _ _ _ _ (by k_asm) (by k_asm) (fun p hp => .tail _ (.tail _ (.tail _ hp))) (.head _) ?_
    have : ∀ (k : Nat) (v : Int) (t : Tok), IntsAre (List.replicate k [Value.int v t]).flatten (List.replicate k v) := by
      intro k v t
      induction k with
      | zero => exact .nil
      | succ k ih => rw [List.replicate_succ, List.replicate_succ, List.flatten_cons]; exact .cons _ _ ih
    exact this _ _ _
end Mine
end

section
open PySem PySem.W PyProof.Rows PySem.Calls
/-- the walker's notes of the text before are put away -/
theorem Mine.freshLq {prog : Program} {w : World} {A : Around} {env : Env} {Q : Flow → Shared → Prop} {E : Value → Shared → Prop} {s : Shared} (h : Q .next s) : wpAny (model prog w) A (execs [] env) Q E s := by
  w_on
  w_top off
  k_with_none
  walk1
  exact h
end
section
open PySem PySem.W PyProof.Rows PySem.Calls
set_option maxRecDepth 100000
set_option linter.all false
namespace Mine
section
variable {prog : Program} {w : World} {A : Around} {E : Value → Shared → Prop} {s : Shared} {env : Env} {h₀ : Heap} {target : Expr} {body : List Stmt} {Q : Flow → Shared → Prop}
/-- what walks: an iterator's own part -/
structure Goes (prog : Program) (w : World) (A : Around) (I : Addr) (n : Nat) (P : Nat → Value → Prop) (St : Nat → Heap → Prop) (Ok : Heap → Prop) : Prop where
  frame : ∀ i h h', St i h → (∀ o, h.get? I = some o → h'.get? I = some o) → St i h'
  here : ∀ i h, St i h → ∃ o, h.get? I = some o
  item : ∀ i (s : Shared) (Q : Option Value → Shared → Prop) (E : Value → Shared → Prop), i < n → St i s.heap → Ok s.heap →
    (∀ v h' tk, P i v → St (i + 1) h' → (∀ (b : Nat) (o : Obj), b ≠ I → s.heap.get? b = some o → h'.get? b = some o) → Q (some v) { s with heap := h', toks := tk }) → wpAny (model prog w) A (pyNext (.ref I)) Q E s
  done : ∀ (s : Shared) (Q : Option Value → Shared → Prop) (E : Value → Shared → Prop), St n s.heap → Ok s.heap →
    (∀ h' tk, (∀ (b : Nat) (o : Obj), b ≠ I → s.heap.get? b = some o → h'.get? b = some o) → Q none { s with heap := h', toks := tk }) → wpAny (model prog w) A (pyNext (.ref I)) Q E s
  go : ∀ (t : Expr) i v (s : Shared) (Q : Unit → Shared → Prop) (E : Value → Shared → Prop), ((∃ e k p, t = .Tuple e k p) ∨ (∃ x p, t = .Name x p)) → P i v → St (i + 1) s.heap → Q () s → wpAny (model prog w) A (letOwnedTupleGo t (.ref I) v) Q E s
theorem Goes.list {I l : Addr} {its : List Value} (hh : A.handled = none) : Goes prog w A I its.length (fun i v => its[i]? = some v) (fun i h => h.IsListIter I l i) (fun h => h.IsList l its.toArray) where
  frame := fun i h h' ⟨o, e, r⟩ hk => ⟨o, hk o e, r⟩
  here := fun i h ⟨o, e, _⟩ => ⟨o, e⟩
  item := fun i s Q E hi st ok hQ => by
    refine wpAny_pyNext_list_item (x := its[i]) st ok (by simp [hi]) fun h₂ hit₂ hs₂ => ?_
    exact hQ _ h₂ _ (by simp [hi]) hit₂ fun b o hb e => (hs₂.2 b hb).trans e
  done := fun s Q E st ok hQ => wpAny_pyNext_list_end hh st ok (by simp) fun h₂ he => hQ h₂ _ fun b o hb e => he b o hb e
  go := fun t i v s Q E ht hP st hQ => by
    rcases ht with ⟨e, k, p, rfl⟩ | ⟨x, p, rfl⟩
    · exact goT st hQ
    · exact goN hQ
theorem Goes.range {I : Addr} {a c : Int} {n : Nat} (hh : A.handled = none) : Goes prog w A I n (fun i v => ∃ t, v = .int (a + i * c) t) (fun i h => IsRangeIter h I (a + (i : Nat) * c) ((n : Int) - (i : Nat)) c) (fun _ => True) where
  frame := fun _ _ _ st hk => hk _ st
  here := fun i h st => ⟨_, st⟩
  item := fun i s Q E hi st _ hQ => by
    refine (Walks.range (prog := prog) (w := w) hh I a c n).item i s Q E hi st fun v h' tk hP st' hk => ?_
    exact hQ v h' tk hP st' fun b o hb e => hk b o (by simp [hb]) e
  done := fun s Q E st _ hQ => (Walks.range (prog := prog) (w := w) hh I a c n).done s Q E st fun h' tk hk => hQ h' tk fun b o hb e => hk b o (by simp [hb]) e
  go := fun t i v s Q E ht hP st hQ => by
    obtain ⟨tk, rfl⟩ := hP
    rcases ht with ⟨e, k, p, rfl⟩ | ⟨x, p, rfl⟩
    · exact wpAny_pure hQ
    · exact wpAny_pure hQ

/-- what a loop needs, once its iterator is made -/
inductive ForAt (prog : Program) (w : World) (A : Around) (h₀ : Heap) (env : Env) (target : Expr) (body : List Stmt) (Q : Flow → Shared → Prop) (E : Value → Shared → Prop) (s : Shared) (iv : Value) (s₂ : Shared) : Prop
  | mk (I : Addr) (n : Nat) (P : Nat → Value → Prop) (St : Nat → Heap → Prop) (Ok : Heap → Prop) (J : Nat → (Str → Option Value) → List (Addr × Obj) → Prop) (h₂ : Heap) (tk₂ : Nat) (m₂ : Str → Option Value) (news₂ : List (Addr × Obj)) (x0 : iv = .ref I) (x1 : s₂ = { s with heap := h₂, toks := tk₂ }) (x2 : Goes prog w A I n P St Ok) (x3 : I ≠ env.locals) (x4 : h₀.get? I = none) (x5 : St 0 h₂) (x6 : Fr h₀ env.locals h₂ m₂) (x7 : News h₀ env.locals h₂ news₂) (x8 : (∀ p ∈ news₂, p.1 ≠ I)) (x9 : J 0 m₂ news₂) (x10 : (∀ i m₁ news₁ h₁, J i m₁ news₁ → Fr h₀ env.locals h₁ m₁ → News h₀ env.locals h₁ news₁ → Ok h₁)) (x11 : (∀ i v m₁ news₁ own h tk, i < n → P i v → J i m₁ news₁ → OwnOff own (news₁.map (·.1)) → Fr h₀ env.locals h m₁ → News h₀ env.locals h (news₁ ++ own) → wpAny (model prog w) A (assign target env v) (fun _ s₂ => wpAny (model prog w) A (execs body env) (TurnEnd h₀ env.locals (J (i + 1)) own s Q) E s₂) E { s with heap := h, toks := tk })) (x12 : (∀ m₁ news₁ h tk, J n m₁ news₁ → Fr h₀ env.locals h m₁ → News h₀ env.locals h news₁ → Q .next { s with heap := h, toks := tk })) : ForAt prog w A h₀ env target body Q E s iv s₂
/-- what holds at each turn -/
inductive ForInv (h₀ : Heap) (L : Addr) (s : Shared) (I : Addr) (n : Nat) (St : Nat → Heap → Prop) (J : Nat → (Str → Option Value) → List (Addr × Obj) → Prop) (k : Nat) (s' : Shared) : Prop
  | mk (h₁ : Heap) (tk₁ : Nat) (m₁ : Str → Option Value) (news₁ : List (Addr × Obj)) (i : Nat) (x0 : s' = { s with heap := h₁, toks := tk₁ }) (x1 : St i h₁) (x2 : Fr h₀ L h₁ m₁) (x3 : News h₀ L h₁ news₁) (x4 : ∀ p ∈ news₁, p.1 ≠ I) (x5 : J i m₁ news₁) (x6 : i ≤ n) (x7 : k = n + 1 - i) : ForInv h₀ L s I n St J k s'
theorem For_gen {iter : Expr} {pos : Pos} {m : Str → Option Value} (_F : Fr h₀ env.locals s.heap m) (ht : (∃ e k p, target = .Tuple e k p) ∨ (∃ x p, target = .Name x p))
    (heval : wpAny (model prog w) A (eval iter env) (fun xv s₁ => wpAny (model prog w) A (pyIter xv) (ForAt prog w A h₀ env target body Q E s) E s₁) E s)
    (hs : ∀ x, foldedSetIterable iter env x = pure x := by intro _; rfl)
    (hE : PassesOwn (model prog w) A env E := by passes_own) :
    wpAny (model prog w) A (exec (.For target iter body [] pos) env) Q E s := by
  refine wpAny_For (wpAny_mono heval (fun xv s₁ h₁ => ?_) fun _ _ e => e) hs
  refine wpAny_mono h₁ (fun iv s₂ h₂ => ?_) fun _ _ e => e
  obtain ⟨I, n, P, St, Ok, J, h₂, tk₂, m₂, news₂, rfl, rfl, W, hIL, hI0, hst, F₂, N₂, hne₂, hJ₂, hkeep, turn, done⟩ := h₂
  refine codeAny_forLoop_any
    (ForInv h₀ env.locals s I n St J) ?_ (n + 1)
    ⟨h₂, tk₂, m₂, news₂, 0, rfl, hst, F₂, N₂, hne₂, hJ₂, Nat.zero_le _, rfl⟩
  rintro k s' ⟨h₁, tk₁, m₁, news₁, i, rfl, hit, F₁, N₁, hne, hJ₁, hi, rfl⟩
  have hl₁ := hkeep i _ _ _ hJ₁ F₁ N₁
  have frm : ∀ h₃ : Heap, (∀ (b : Nat) (o : Obj), b ≠ I → h₁.get? b = some o → h₃.get? b = some o) → Fr h₀ env.locals h₃ m₁ ∧ ∀ p ∈ news₁, h₃.get? p.1 = some p.2 ∧ p.1 ≠ env.locals ∧ h₀.get? p.1 = none := fun h₃ he =>
    ⟨⟨F₁.ns.extBut (fun b o hb e => he b o hb e) hIL.symm, fun b o e => he b o (fun q => by rw [q, hI0] at e; cases e) (F₁.keep b o e), F₁.above⟩, fun p hp => ⟨he _ _ (hne p hp) (N₁ p hp).1, (N₁ p hp).2⟩⟩
  by_cases hlt : i < n
  · refine W.item i _ _ _ hlt hit hl₁ fun v h₃ tk₃ hP st₃ hk₃ => ?_
    refine W.go target i v _ _ _ ht hP st₃ ?_
    obtain ⟨F₃, N₃⟩ := frm h₃ hk₃
    obtain ⟨oi, hoi⟩ := W.here _ _ st₃
    have N₃' : News h₀ env.locals h₃ (news₁ ++ [(I, oi)]) := by
      intro p hp
      rcases List.mem_append.mp hp with hp | hp
      · exact N₃ p hp
      · rw [List.mem_singleton.mp hp]
        exact ⟨hoi, hIL, hI0⟩
    have off : OwnOff [(I, oi)] (news₁.map (·.1)) := by
      intro p hp b hb
      rw [List.mem_singleton.mp hp]
      obtain ⟨q, hq, rfl⟩ := List.mem_map.mp hb
      exact (hne q hq).symm
    refine wpAny_passesOwn hE (wpAny_mono (turn i v m₁ news₁ _ h₃ tk₃ hlt hP hJ₁ off F₃ N₃') (fun _ s₂ h₃ => ?_) fun _ _ e => e)
    refine wpAny_passesOwn hE (wpAny_mono h₃ (fun f s₃ h₄ => ?_) fun _ _ e => e)
    cases f with
    | ret v => exact h₄
    | brk => exact h₄
    | next =>
      obtain ⟨h₅, tk₅, m₅, news₅, rfl, F₅, N₅, off₅, hJ₅⟩ := h₄
      have e5 := (N₅ (I, oi) (by simp)).1
      refine ⟨n + 1 - (i + 1), by omega, h₅, tk₅, m₅, news₅, i + 1, rfl, W.frame _ _ _ st₃ (fun o e => by rw [hoi] at e; cases e; exact e5), F₅, fun p hp => N₅ p (List.mem_append_left _ hp), fun p hp e => ?_, hJ₅, hlt, rfl⟩
      exact off₅ _ (.head _) p.1 (List.mem_map_of_mem hp) e.symm
    | cont =>
      obtain ⟨h₅, tk₅, m₅, news₅, rfl, F₅, N₅, off₅, hJ₅⟩ := h₄
      have e5 := (N₅ (I, oi) (by simp)).1
      refine ⟨n + 1 - (i + 1), by omega, h₅, tk₅, m₅, news₅, i + 1, rfl, W.frame _ _ _ st₃ (fun o e => by rw [hoi] at e; cases e; exact e5), F₅, fun p hp => N₅ p (List.mem_append_left _ hp), fun p hp e => ?_, hJ₅, hlt, rfl⟩
      exact off₅ _ (.head _) p.1 (List.mem_map_of_mem hp) e.symm
  · have hsz : i = n := by omega
    subst hsz
    refine W.done _ _ _ hit hl₁ fun h₃ tk₃ he => wpAny_execs_nil ?_
    obtain ⟨F₃, N₃⟩ := frm h₃ he
    exact done m₁ news₁ h₃ tk₃ hJ₁ F₃ N₃
theorem ForAt_list {s s₁ : Shared} {h : Heap} {tk : Nat} {l : Addr} {its : List Value} {m : Str → Option Value} {news : List (Addr × Obj)} (hh : A.handled = none) (es : s₁ = { s with heap := h, toks := tk }) (F : Fr h₀ env.locals h m) (N : News h₀ env.locals h news) (J : Nat → (Str → Option Value) → List (Addr × Obj) → Prop)
    (hJ : J 0 m news) (hkeep : ∀ i m₁ news₁ h₁, J i m₁ news₁ → Fr h₀ env.locals h₁ m₁ → News h₀ env.locals h₁ news₁ → h₁.IsList l its.toArray)
    (turn : ∀ i v m₁ news₁ own h tk, its[i]? = some v → J i m₁ news₁ → OwnOff own (news₁.map (·.1)) → Fr h₀ env.locals h m₁ → News h₀ env.locals h (news₁ ++ own) →
      wpAny (model prog w) A (assign target env v) (fun _ s₂ => wpAny (model prog w) A (execs body env) (TurnEnd h₀ env.locals (J (i + 1)) own s Q) E s₂) E { s with heap := h, toks := tk })
    (done : ∀ m₁ news₁ h tk, J its.length m₁ news₁ → Fr h₀ env.locals h m₁ → News h₀ env.locals h news₁ → Q .next { s with heap := h, toks := tk }) :
    wpAny (model prog w) A (pyIter (.ref l)) (ForAt prog w A h₀ env target body Q E s) E s₁ := by
  subst es
  have hl : h.IsList l its.toArray := hkeep 0 _ _ _ hJ F N
  refine wpAny_pyIter_list hl ?_
  have hI : ∀ b o, h.get? b = some o → b ≠ h.objs.size := fun b o e => Nat.ne_of_lt (Heap.lt_size e)
  obtain ⟨oL, _, _, hoL, _⟩ := id F.ns
  have hIL : h.objs.size ≠ env.locals := fun e => hI _ _ hoL e.symm
  have hI0 : h₀.get? h.objs.size = none := by
    cases q : h₀.get? h.objs.size with
    | none => rfl
    | some o => exact absurd (F.keep _ _ q) (fun e => hI _ _ e rfl)
  exact ⟨h.objs.size, its.length, _, _, _, J, _, tk, m, news, rfl, rfl, Goes.list hh, hIL, hI0, ⟨_, Heap.get?_push_size _ rfl, rfl, rfl⟩, F.push _, fun p hp => ⟨Heap.get?_push_of_some _ (N p hp).1, (N p hp).2⟩, fun p hp => hI _ _ (N p hp).1, hJ, hkeep, fun i v m₁ news₁ own h tk _ => turn i v m₁ news₁ own h tk, done⟩
theorem ForAt_range {s s₁ : Shared} {h : Heap} {tk n : Nat} {r : Addr} {a b c : Int} {t u v : Tok} {m : Str → Option Value} {news : List (Addr × Obj)} (hh : A.handled = none) (es : s₁ = { s with heap := h, toks := tk }) (F : Fr h₀ env.locals h m) (N : News h₀ env.locals h news) (hr : IsRange h r a b c t u v) (hsmall : Builtin.Range.small a b c = true)
    (hn : Builtin.Range.rangeSize a b c = (n : Int)) (J : Nat → (Str → Option Value) → List (Addr × Obj) → Prop)
    (hJ : J 0 m news)
    (turn : ∀ i t m₁ news₁ own h tk, i < n → J i m₁ news₁ → OwnOff own (news₁.map (·.1)) → Fr h₀ env.locals h m₁ → News h₀ env.locals h (news₁ ++ own) →
      wpAny (model prog w) A (assign target env (.int (a + (i : Nat) * c) t)) (fun _ s₂ => wpAny (model prog w) A (execs body env) (TurnEnd h₀ env.locals (J (i + 1)) own s Q) E s₂) E { s with heap := h, toks := tk })
    (done : ∀ m₁ news₁ h tk, J n m₁ news₁ → Fr h₀ env.locals h m₁ → News h₀ env.locals h news₁ → Q .next { s with heap := h, toks := tk }) :
    wpAny (model prog w) A (pyIter (.ref r)) (ForAt prog w A h₀ env target body Q E s) E s₁ := by
  subst es
  refine wpAny_pyIter_range hr hsmall ?_
  have hI : ∀ b o, h.get? b = some o → b ≠ h.objs.size := fun b o e => Nat.ne_of_lt (Heap.lt_size e)
  obtain ⟨oL, _, _, hoL, _⟩ := id F.ns
  have hIL : h.objs.size ≠ env.locals := fun e => hI _ _ hoL e.symm
  have hI0 : h₀.get? h.objs.size = none := by
    cases q : h₀.get? h.objs.size with
    | none => rfl
    | some o => exact absurd (F.keep _ _ q) (fun e => hI _ _ e rfl)
  refine ⟨h.objs.size, n, _, _, _, J, _, tk, m, news, rfl, rfl, Goes.range (a := a) (c := c) hh, hIL, hI0, ?_, F.push _, fun p hp => ⟨Heap.get?_push_of_some _ (N p hp).1, (N p hp).2⟩, fun p hp => hI _ _ (N p hp).1, hJ, fun _ _ _ _ _ _ _ => trivial, fun i v m₁ news₁ own h tk hlt hP => ?_, done⟩
  · have e := Heap.get?_push_size h (o := { cls := .type "range_iterator", data := .fields #[rawInt a, rawInt (Builtin.Range.rangeSize a b c), rawInt c] }) rfl
    rw [hn] at e ⊢
    show IsRangeIter _ _ _ _ _
    simp only [Int.ofNat_zero, Int.zero_mul, Int.add_zero, Int.sub_zero]
    exact e
  · obtain ⟨t, rfl⟩ := hP
    exact turn i t m₁ news₁ own h tk hlt
end
end Mine
end

section
open PySem PySem.W PyProof.Rows PySem.Calls
/-- the walker's notes of the text before are put away -/
theorem Mine.freshC11 {prog : Program} {w : World} {A : Around} {env : Env} {Q : Flow → Shared → Prop} {E : Value → Shared → Prop} {s : Shared} (h : Q .next s) : wpAny (model prog w) A (execs [] env) Q E s := by
  w_on
  w_top off
  k_with_none
  walk1
  exact h
end
section
open PySem PySem.W PyProof.Rows PySem.Calls
set_option maxRecDepth 100000
set_option maxHeartbeats 8000000
set_option linter.all false
namespace Mine
variable {w : World} {p : Program} {loose : List Str} {mean : ExcName → Option Value} {mg mb : Str → Option Value}
  {dp un : Nat} {gd : Option (List Code)} {cn : Str} {cs : Scope} {a : Addr} {ccd : Value} {cl : List (Str × Addr)} {outer : List Env} {A₀ : Around} {base h₀ : Heap} {L : Addr} {m : Str → Option Value} {news : List (Addr × Obj)} {s : Shared} {Q E : Value → Shared → Prop}
theorem toldC11_1 : True := by
  k_with "cell_enter" => (refine' code_def ?k1 ?k2 ?k3 ?k4 ?k5 ?kA ?kF ?kK ?k6 ?k7 ?k8 ?k9 ?kB ?_ ?c2 ?c3 ?c4 ?c5; (case kA => exact rfl); (case kF => exact rfl); (case kK => assumption); (case k1 => k_asm); (case k2 => k_asm); (case k3 => k_asm); (case k4 => k_asm); (case k5 => k_asm); (case k6 => k_is); (case k7 => k_is); (case k8 => ktr_room); (case k9 => first | exact BindsTo.of_eq rfl | exact binds_K (by k_in) rfl (by k_is) rfl rfl rfl); (case c5 => decide); (case kB => exact locs rfl); (case c2 => exact rfl); (case c3 => exact rfl); (case c4 => exact rfl); k_whole; intro g' L' h' FG' F' N' B' X' T'; (try dsimp only); (try k_lift B'); (try k_fold))
  trivial
theorem toldC11_2 : True := by
  k_with "k_mem" => (refine List.mem_cons_of_mem _ ?_; k_mem)
  trivial
theorem toldC11_3 : True := by
  k_with "ktr_units" => (have hcL9 := cLine_is; ((try simp only [units_under_make, units_in1, units_deeper, Around.mark_units, units_caller] at *); (try dsimp only [ktrTop] at *); omega))
  trivial

theorem toldC11_4 : True := by
  k_with "exec For Name Subscript cons nil" => (refine halt ?_)
  trivial
theorem toldC11_5 : True := by
  k_with "pyIter ref" => (refine halt ?_)
  trivial
theorem snd_led {h₀ h : Heap} {L l : Addr} {o : Obj} {q : Addr × Obj} {rest : List (Addr × Obj)} (N : News h₀ L h (q :: (l, o) :: rest)) : ∃ l', l' = l := ⟨l, rfl⟩
theorem news_swap {h₀ h : Heap} {L : Addr} {p q : Addr × Obj} {rest : List (Addr × Obj)} (N : News h₀ L h (p :: q :: rest)) : News h₀ L h (q :: p :: rest) := cb_drop N fun x hx => by
  rcases List.mem_cons.mp hx with rfl | hx
  · exact .tail _ (.head _)
  · rcases List.mem_cons.mp hx with rfl | hx
    · exact .head _
    · exact .tail _ (.tail _ hx)
theorem ints_led {vs : List Value} {ns : List Int} (_ : IntsAre vs ns) : ∃ v, v = vs := ⟨vs, rfl⟩
/-- the sums' list, ahead of the others -/
def SumsAt (l : Addr) (rest : List (Addr × Obj)) (m₁ : Str → Option Value) (news₁ : List (Addr × Obj)) : Prop :=
  ∃ (xs : List Int) (its : List Value) (k : Nat) (pl : Int) (tp : Tok), IntsAre its xs ∧ xs.length = 3 ∧ (∀ x ∈ xs, 0 ≤ x) ∧ m₁ "sums" = some (.ref l) ∧ m₁ "place" = some (.int pl tp) ∧ 0 ≤ pl ∧ pl < 3 ∧ news₁ = (l, W.listOf its.toArray k) :: rest
theorem set_nonneg {xs : List Int} {i : Nat} {v : Int} (h : ∀ x ∈ xs, 0 ≤ x) (hv : 0 ≤ v) : ∀ x ∈ xs.set i v, 0 ≤ x := by
  intro x hx
  rcases List.mem_or_eq_of_mem_set hx with h1 | h1
  · exact h x h1
  · rw [h1]; exact hv
theorem getD_nonneg {xs : List Int} {i : Nat} (h : ∀ x ∈ xs, 0 ≤ x) : 0 ≤ xs.getD i 0 := by
  rw [List.getD_eq_getElem?_getD]
  cases e : xs[i]? with
  | none => simp
  | some v => exact h v (List.mem_of_getElem? e)
theorem tSums {l : Addr} {vs : List Value} {ns : List Int} (B : Below A₀ base outer h₀) (F : Fr h₀ L s.heap m) (X : (Mine.hd.heap_39 w.params).In h₀) (N : News h₀ L s.heap news) (T : Top p loose mean mg mb h₀) (hk : cs.kind = .function)
  (hd : dp + 1 < recursionLimit) (hu : un + 8 < cLine) (hl : h₀.IsList l vs.toArray) (hi : IntsAre vs ns) (hlen : ns.length ≤ 65536)
  (hret : ∀ D its xs k h' tk', Fr h₀ L h' m → News h₀ L h' ((D, W.listOf (List.toArray its) k) :: news) → IntsAre its xs → xs.length = 3 → (∀ x ∈ xs, 0 ≤ x) → Q (.ref D) { s with heap := h', toks := tk' }) :
  wpAny (model PySem.Challenge.rw_st0018_01.row.prog w) (ktrTop dp un gd cn cs L a ccd cl outer) (call (.ref 213) [.ref l]) Q E s := by
  revert X
  k_fill
  intro X
  refine wpAny_call ?_
  k_dflt cell_enter
  k_steps
  unfold Halt
  with_reducible (rename Fr _ _ _ _ => F9)
  have hlg := Fr.lst ‹Fr h₀ L _ m› hl
  refine For_gen F9 (.inr ⟨_, _, rfl⟩) ?_
  k_steps
  unfold Halt
  with_reducible (rename Fr _ _ _ _ => F9)
  with_reducible (rename News _ _ _ _ => N9)
  obtain ⟨S, eS⟩ := head_led N9
  obtain ⟨lS, el⟩ := snd_led N9
  subst eS
  subst el
  have hlt := ‹@LT.lt Nat _ lS S ∧ AllLt S news›
  have hws := ‹IntsAre _ (List.take 63 ns)›
  have hll := ‹∀ p ∈ news, @LT.lt Nat _ p.1 lS›
  obtain ⟨ws, ews⟩ := ints_led hws
  subst ews
  refine ForAt_list (its := ws) rfl rfl F9 (news_swap N9) (fun i m₁ news₁ => SumsAt lS ((S, W.listOf ws.toArray 0) :: news) m₁ news₁) ?h0 ?hkeep ?turn ?done
  case h0 => exact ⟨[4, 11, 57], _, _, 0, _, .cons _ _ (.cons _ _ (.cons _ _ .nil)), rfl, by simp, rfl, rfl, by decide, by decide, rfl⟩
  case hkeep =>
    rintro i m₁ news₁ h₁ ⟨xs, its, k, pl, tp, _, _, _, _, _, _, _, rfl⟩ _ N₁
    exact ⟨_, (N₁ _ (.tail _ (.head _))).1, rfl, _, rfl⟩
  case turn =>
    rintro i v m₁ news₁ own h tk hv ⟨xs, its, k, pl, tp, hxs, hx3, hxp, e1, e2, hp0, hp3, rfl⟩ off F₁ N₁
    obtain ⟨n, hn⟩ : ∃ n, (List.take 63 ns)[i]? = some n := by
      have hi' : i < (List.take 63 ns).length := by rw [← hws.length]; exact (List.getElem?_eq_some_iff.mp hv).1
      exact ⟨_, List.getElem?_eq_getElem hi'⟩
    obtain ⟨t, ht⟩ := hws.get i n hn
    rw [hv] at ht
    cases ht
    rw [known e1, known e2] at F₁
    rw [List.cons_append] at N₁
    have hoff : OwnOff ((S, W.listOf ws.toArray 0) :: news ++ own) [lS] := by
      intro p hp b hb
      rw [List.mem_singleton.mp hb]
      rcases List.mem_append.mp hp with hp | hp
      · rcases List.mem_cons.mp hp with rfl | hp
        · have := hlt.1
          exact neN (by show @Ne Nat S lS; omega)
        · have := hll p hp
          exact neN (by omega)
      · exact off p hp lS (by simp)
    generalize hR : ((S, W.listOf ws.toArray 0) :: news ++ own) = R at N₁ hoff
    have hnn := getD_nonneg (i := pl.toNat) hxp
    have hnm : 0 ≤ n.fmod 1000000 := Int.fmod_nonneg_of_pos n (by decide)
    clear F9 N9
    k_steps
    subst hR
    with_reducible (rename Fr _ _ _ _ => F8)
    with_reducible (rename News _ _ _ _ => N8)
    have h8 := ‹IntsAre (its.set _ _) _›
    refine turn_next (news₂ := (lS, _) :: (S, W.listOf ws.toArray 0) :: news) F8 N8 off ⟨_, _, _, _, _, h8, by rw [List.length_set]; exact hx3, set_nonneg hxp ?_, rfl, rfl, ?_, ?_, rfl⟩
    · omega
    · exact Int.fmod_nonneg_of_pos _ (by decide)
    · exact Int.fmod_lt_of_pos _ (by decide)
  case done =>
    rintro m₁ news₁ h tk ⟨xs, its, k, pl, tp, hxs, hx3, hxp, e1, e2, hp0, hp3, rfl⟩ F₁ N₁
    rw [known e1, known e2] at F₁
    clear F9 N9
    k_steps
    have N7 := ‹News h₀ L _ ((lS, W.listOf its.toArray k) :: (S, W.listOf ws.toArray 0) :: news)›
    refine hret lS its xs k _ _ (by k_asm) (cb_drop N7 fun p hp => ?_) hxs hx3 hxp
    rcases List.mem_cons.mp hp with rfl | hp
    · exact .head _
    · exact .tail _ (.tail _ hp)
end Mine
end

section
open PySem PySem.W PyProof.Rows PySem.Calls
/-- the walker's notes of the text before are put away -/
theorem Mine.freshC12 {prog : Program} {w : World} {A : Around} {env : Env} {Q : Flow → Shared → Prop} {E : Value → Shared → Prop} {s : Shared} (h : Q .next s) : wpAny (model prog w) A (execs [] env) Q E s := by
  w_on
  w_top off
  k_with_none
  walk1
  exact h
end
section
open PySem PySem.W PyProof.Rows PySem.Calls
set_option maxRecDepth 100000
set_option maxHeartbeats 8000000
set_option linter.all false
namespace Mine
variable {w : World} {p : Program} {loose : List Str} {mean : ExcName → Option Value} {mg mb : Str → Option Value}
  {dp un : Nat} {gd : Option (List Code)} {cn : Str} {cs : Scope} {a : Addr} {ccd : Value} {cl : List (Str × Addr)} {outer : List Env} {A₀ : Around} {base h₀ : Heap} {L : Addr} {m : Str → Option Value} {news : List (Addr × Obj)} {s : Shared} {Q E : Value → Shared → Prop}
theorem toldC12_1 : True := by
  k_with "cell_enter" => (refine' code_defC ?k1 ?k2 ?k3 ?k4 ?k5 ?kA ?kF ?kK ?k6 ?k7 ?k8 ?k9 ?kB ?kD ?_ ?c2 ?c3 ?c4; (case kA => exact rfl); (case kF => exact rfl); (case kK => assumption); (case k1 => k_asm); (case k2 => k_asm); (case k3 => k_asm); (case k4 => k_asm); (case k5 => k_asm); (case k6 => k_is); (case k7 => k_is); (case k8 => ktr_room); (case k9 => first | exact BindsTo.of_eq rfl | exact binds_K (by k_in) rfl (by k_is) rfl rfl rfl); (case kB => exact rfl); (case kD => decide +kernel); (case c2 => exact rfl); (case c3 => exact rfl); (case c4 => exact rfl); k_whole; intro g' L' h' tk' cells' FG' F' N' Y' B' X' T' l1; (try k_lt l1); k_cells Y'; (try simp only [List.cons_append, List.nil_append] at N'); (try dsimp only); (try k_lift B'); (try k_fold))
  trivial
theorem toldC12_2 : True := by
  k_with "k_mem" => (refine List.mem_cons_of_mem _ ?_; k_mem)
  trivial
theorem toldC12_3 : True := by
  k_with "ktr_units" => (have hcL9 := cLine_is; ((try simp only [units_under_make, units_in1, units_deeper, Around.mark_units, units_caller] at *); (try dsimp only [ktrTop] at *); omega))
  trivial

theorem dvd_of_fmod {p x : Nat} (hx : 1 ≤ x) (h : (p : Int).fmod x = 0) : x ∣ p := by
  rw [Int.fmod_eq_emod_of_nonneg _ (by omega)] at h
  exact Int.natCast_dvd_natCast.mp (Int.dvd_of_emod_eq_zero h)
theorem fmod_of_dvd {p x : Nat} (hx : 1 ≤ x) (h : x ∣ p) : (p : Int).fmod x = 0 := by
  rw [Int.fmod_eq_emod_of_nonneg _ (by omega)]
  exact Int.emod_eq_zero_of_dvd (Int.natCast_dvd_natCast.mpr h)
/-- the common ones up to i -/
def Commons (p q i : Nat) (zs : List Int) : Prop := (∀ z ∈ zs, ∃ x : Nat, z = x ∧ 1 ≤ x ∧ x ≤ i ∧ x ∣ p ∧ x ∣ q) ∧ ∀ x : Nat, 1 ≤ x → x ≤ i → x ∣ p → x ∣ q → (x : Int) ∈ zs
theorem Commons.yes {p q i : Nat} {zs : List Int} (c : Commons p q i zs) (h1 : (i + 1) ∣ p) (h2 : (i + 1) ∣ q) : Commons p q (i + 1) (zs ++ [((i + 1 : Nat) : Int)]) := by
  refine ⟨fun z hz => ?_, fun x hx1 hx2 hp hq => ?_⟩
  · rcases List.mem_append.mp hz with h | h
    · obtain ⟨x, e, a, b, c', d⟩ := c.1 z h
      exact ⟨x, e, a, by omega, c', d⟩
    · rw [List.mem_singleton.mp h]
      exact ⟨i + 1, rfl, by omega, by omega, h1, h2⟩
  · by_cases h : x ≤ i
    · exact List.mem_append_left _ (c.2 x hx1 h hp hq)
    · have : x = i + 1 := by omega
      subst this
      exact List.mem_append_right _ (List.mem_singleton.mpr rfl)
theorem Commons.no {p q i : Nat} {zs : List Int} (c : Commons p q i zs) (h : ¬ ((i + 1) ∣ p ∧ (i + 1) ∣ q)) : Commons p q (i + 1) zs := by
  refine ⟨fun z hz => ?_, fun x hx1 hx2 hp hq => ?_⟩
  · obtain ⟨x, e, a, b, c', d⟩ := c.1 z hz
    exact ⟨x, e, a, by omega, c', d⟩
  · by_cases h' : x ≤ i
    · exact c.2 x hx1 h' hp hq
    · have : x = i + 1 := by omega
      subst this
      exact absurd ⟨hp, hq⟩ h
theorem Commons.best {p q : Nat} {zs : List Int} {M : Int} (c : Commons p q p zs) (hp : 1 ≤ p) (h1 : M ∈ zs) (h2 : ∀ a, a ∈ zs → a ≤ M) : M = (Nat.gcd p q : Nat) := by
  obtain ⟨x, rfl, a, b, c', d⟩ := c.1 M h1
  have g1 : 0 < Nat.gcd p q := Nat.gcd_pos_of_pos_left _ (by omega)
  have h3 := h2 _ (c.2 (Nat.gcd p q) g1 (Nat.le_of_dvd (by omega) (Nat.gcd_dvd_left p q)) (Nat.gcd_dvd_left p q) (Nat.gcd_dvd_right p q))
  have h4 : x ≤ Nat.gcd p q := Nat.le_of_dvd g1 (Nat.dvd_gcd c' d)
  omega
theorem Commons.some {p q : Nat} {zs : List Int} (c : Commons p q p zs) (hp : 1 ≤ p) : 0 < zs.length :=
  List.length_pos_of_mem (c.2 1 (Nat.le_refl _) hp (Nat.one_dvd _) (Nat.one_dvd _))
theorem compRest_ind {prog : Program} {A : Around} {env : Env} {ct elt : Expr} {x : Str} {scope : Scope} {cl : List (Str × Addr)} {S : List (Addr × Obj) → Prop} {P : Nat → Value → Prop} {Fin : List Value → List (Addr × Obj) → Prop} (Inv : Nat → List Value → Prop) {n : Nat} (h0 : Inv 0 []) (fin : ∀ ys, Inv n ys → Fin ys news)
    (turn : ∀ i ys k, i < n → Inv i ys → (∀ ys', Inv (i + 1) ys' → LCt.CompRestT prog w A h₀ L m env ct elt x scope cl s S P Fin k (i + 1) ys' news) → LCt.CompRestT prog w A h₀ L m env ct elt x scope cl s S P Fin (k + 1) i ys news) :
    LCt.CompRestT prog w A h₀ L m env ct elt x scope cl s S P Fin n 0 [] news := by
  have key : ∀ k i ys, i + k = n → Inv i ys → LCt.CompRestT prog w A h₀ L m env ct elt x scope cl s S P Fin k i ys news := by
    intro k
    induction k with
    | zero =>
      intro i ys e hI
      have : i = n := by omega
      subst this
      exact fin ys hI
    | succ k ih =>
      intro i ys e hI
      exact turn i ys k (by omega) hI fun ys' hI' => ih (i + 1) ys' (by omega) hI'
  exact key n 0 [] (by omega) h0
/-- how many are left -/
def leftI (n p q : Nat) : Int := if (p : Int) + q - Nat.gcd p q ≤ n then (Nat.gcd p q : Nat) else (n : Int) - (if (n : Int) - p > 0 then (n : Int) - p else 0) - (if (n : Int) - q > 0 then (n : Int) - q else 0)
theorem toldC12_4 : True := by
  k_with "eval ListComp" => (refine halt ?_)
  trivial
theorem toldC12_5 : True := by
  k_with "CompSrcT" => (refine halt ?_)
  trivial
theorem tLeft {n p' q : Nat} {t u t3 : Tok} (B : Below A₀ base outer h₀) (F : Fr h₀ L s.heap m) (X : (Mine.hd.heap_39 w.params).In h₀) (N : News h₀ L s.heap news) (T : Top p loose mean mg mb h₀) (hk : cs.kind = .function)
  (hd : dp + 1 < recursionLimit) (hu : un + 8 < cLine) (h1 : 1 ≤ p') (h2 : p' ≤ 10) (h3 : 1 ≤ q) (h4 : q ≤ 10) (h5 : 1 ≤ n) (h6 : n ≤ 10)
  (hret : ∀ t h' tk', Fr h₀ L h' m → News h₀ L h' news → Q (.int (leftI n p' q) t) { s with heap := h', toks := tk' }) :
  wpAny (model PySem.Challenge.rw_st0018_01.row.prog w) (ktrTop dp un gd cn cs L a ccd cl outer) (call (.ref 251) [.int n t, .int p' u, .int q t3]) Q E s := by
  revert X
  k_fill
  intro X
  refine wpAny_call ?_
  k_dflt cell_enter
  k_steps
  unfold Halt
  with_reducible (rename Fr _ _ _ _ => F9)
  refine LCt.ListComp_T (F₀ := F9) (by with_unfolding_all rfl) (by decide) (by rfl) (by decide) (by rfl) ?_
  k_steps
  unfold Halt
  with_reducible (rename IsRange _ _ _ _ _ _ _ _ => R9)
  with_reducible (rename Fr _ _ _ _ => F8)
  with_reducible (rename News _ _ _ _ => N8)
  refine LCt.CompSrcT.range (n := p') rfl F8 N8 R9 ?hsm ?hn (by rw [sizeLine_eq]; omega) ?_
  case hsm => exact small_one (by omega) (by omega) (by omega) (by omega)
  case hn => 
    have := rangeSize_nat 1 ((p' : Int) + 1)
    rw [this]
    congr 1
    omega
  intro g
  refine compRest_ind (fun i ys => ∃ zs, IntsAre ys zs ∧ Commons p' q i zs) ⟨[], .nil, ⟨(fun _ h => nomatch h), fun x a b => by omega⟩⟩ ?fin ?turn
  case fin =>
    rintro ys ⟨zs, hz, hc⟩ D h tk F1 N1 o1
    have hlen := hc.some h1
    clear F8 N8 R9
    have fq : ∀ (x : Int) t h' tk', x = leftI n p' q → Fr h₀ L h' m → News h₀ L h' news → Q (.int x t) { s with heap := h', toks := tk' } := by
      intro x t h' tk' e F' N'
      subst e
      exact hret t h' tk' F' N'
    dsimp only
    k_steps
    all_goals
      have hM := hc.best h1 (by assumption) (by assumption)
      refine fq _ _ _ _ ?_ (by k_asm) (cb_drop (by k_asm) (fun p hp => .tail _ (.tail _ (.tail _ hp))))
      try rw [hM]
      unfold leftI
      first
      | exact (if_pos (by omega)).symm
      | exact (if_neg (by omega)).symm
  case turn =>
    rintro i ys k hi ⟨zs, hz, hc⟩ ih
    intro v I oI C oC D m₂ h tk E' hP hNs hx F1 N1 o3 o4
    obtain ⟨t, rfl⟩ := hP
    have ei : (1 : Int) + (i : Int) = ((i + 1 : Nat) : Int) := by omega
    rw [ei] at hx
    clear F8 N8 R9
    k_steps
    all_goals first
      | exact LCg.CompEnd.intro F1 N1 _ (fun p hp => hp) o3 trivial (ih _ ⟨_, hz.append (.cons _ _ .nil), hc.yes (dvd_of_fmod (by omega) (by assumption)) (dvd_of_fmod (by omega) (by assumption))⟩)
      | exact LCg.CompEnd.intro F1 N1 _ (fun p hp => hp) o3 trivial (ih _ ⟨zs, hz, hc.no fun d => absurd (fmod_of_dvd (by omega) d.1) (by assumption)⟩)
      | exact LCg.CompEnd.intro F1 N1 _ (fun p hp => hp) o3 trivial (ih _ ⟨zs, hz, hc.no fun d => absurd (fmod_of_dvd (by omega) d.2) (by assumption)⟩)
end Mine
end

section
open PySem PySem.W PyProof.Rows PySem.Calls
/-- the walker's notes of the text before are put away -/
theorem Mine.freshSx {prog : Program} {w : World} {A : Around} {env : Env} {Q : Flow → Shared → Prop} {E : Value → Shared → Prop} {s : Shared} (h : Q .next s) : wpAny (model prog w) A (execs [] env) Q E s := by
  w_on
  w_top off
  k_with_none
  walk1
  exact h
end
section
open PySem PySem.W PySem.W.X PyProof.Rows PySem.Calls
set_option maxRecDepth 100000
set_option linter.all false
namespace Mine
section
variable {prog : Program} {w : World} {A : Around} {P : End → Shared → Prop} {c : Code} {fs : List Frame} {s : Shared} {env : Env}
  {K : Flow → Sem Fin} {H : Value → Sem Fin} {gd : Bool → Bool} {lv : List Value → List Value}
abbrev No : Value → Shared → Prop := fun _ _ => False
theorem noE {α : Type} {A : Around} {m : Sem α} {Q : α → Shared → Prop} {E : Value → Shared → Prop} {s : Shared} (h : wpAny (model prog w) A m Q No s) : wpAny (model prog w) A m Q E s := wpAny_mono h (fun _ _ x => x) fun _ _ x => x.elim
theorem sx_wrap {α : Type} {m : Sem α} {K : α → Sem Fin} {H : Value → Sem Fin} {gd lv}
    (h : wpAny (model prog w) (A.over c fs) m (fun a s' => SegX (model prog w) A c (K a) fs s' P) (fun x s' => SegX (model prog w) A c (H x) fs s' P) s) :
    SegX (model prog w) A c (m.wrap K H gd lv) fs s P := by
  rintro Γ p rfl hΓ
  obtain ⟨e, s', hr, hq⟩ := runs_wrap_of_wp (Φ := fun e s' => e.quiet = true ∧ P e s') K H gd lv m (h (Γ.over fs) p (hΓ.over fs)) (fun a p' s' h' => h' Γ p' rfl hΓ) (fun x p' s' h' => h' Γ p' rfl hΓ)
  exact ⟨e, s', hr, hq⟩
theorem sx_bind_wrap {α β : Type} {m : Sem α} {K : α → Sem β} {K' : β → Sem Fin} {H' : Value → Sem Fin} {gd lv}
    (h : wpAny (model prog w) (A.over c fs) m (fun a s' => SegX (model prog w) A c ((K a).wrap K' H' gd lv) fs s' P) (fun x s' => SegX (model prog w) A c (H' x) fs s' P) s) : SegX (model prog w) A c ((m >>= K).wrap K' H' gd lv) fs s P := by
  rw [Sem.bind_eq_wrap', Sem.wrap_wrap]; exact sx_wrap h
theorem sx_execs_nil (h : SegX (model prog w) A c (K .next) fs s P) : SegX (model prog w) A c ((execs [] env).wrap K H gd lv) fs s P := h
theorem sx_execs_cons {st : Stmt} {rest : List Stmt}
    (h : SegX (model prog w) A c ((exec st env).wrap (fun f => match f with | .next => (execs rest env).wrap K H gd lv | f => K f) H gd lv) fs s P) :
    SegX (model prog w) A c ((execs (st :: rest) env).wrap K H gd lv) fs s P := by rw [execs_cons_wrap]; exact h
theorem sx_call {c' : Code} {h g l} {k : Result → Sem Fin} (hc : ∀ p, SegX (model prog w) A c' ((model prog w).den c') (.ret k h g l c p [] :: fs) s P) :
    SegX (model prog w) A c (.call c' h g l k) fs s P := s_call prog w A c fs P s c' h g l k hc
theorem sx_leaf {k h g l c₁ p₁ kp} (r : Result) (hk : SegX (model prog w) A c₁ (k r) fs s P) : SegX (model prog w) A c (leafOf r) (.ret k h g l c₁ p₁ kp :: fs) s P :=
  s_pop prog w A c fs P s r _ rfl k h g l c₁ p₁ kp hk
theorem sx_again {c' : Code} (hq : c'.quiet = true) (hc : SegX (model prog w) A c' ((model prog w).den c') fs s P) : SegX (model prog w) A c (.pure (.again c')) fs s P :=
  s_again prog w A c fs P s c' hq hc
theorem sx_at {p' : Pos} {k : Unit → Sem Fin} (h : SegX (model prog w) A c (k ()) fs s P) : SegX (model prog w) A c (.at p' k) fs s P :=
  sx_wrap (m := standAt p') (K := k) (H := .raise) (gd := id) (lv := id) (wpAny_standAt h)
theorem sx_point {l : List Value} {k : Unit → Sem Fin} (h : SegX (model prog w) A c (k ()) fs s P) : SegX (model prog w) A c (.point l k) fs s P :=
  sx_wrap (m := point) (K := k) (H := .raise) (gd := id) (lv := fun _ => l) (wpAny_point h)
theorem sx_Expr_Yield {e : Expr} {ypos pos : Pos} (hfs : splitAtGen fs = none) (hgd : gd false = false) (hfg : fs.any Frame.guarded = false)
    (h : wpAny (model prog w) (A.over c fs) (eval e env) (fun v s' => Halt (∀ k l p,
        (∀ s'' P', SegX (model prog w) A c (K .next) fs s'' P' → SegX (model prog w) A c (k (.send .none)) fs s'' P') → P (.susp v false l k c p fs) s')) No s) (hco : env.scope.isCoroutine = false := by rfl) (hi : interactive env = false := by rfl) :
    SegX (model prog w) A c ((exec (.Expr (.Yield (some e) ypos) pos) env).wrap K H gd lv) fs s P := by
  rw [exec_Expr env _ pos hi rfl]
  show SegX (model prog w) A c (.at pos fun _ => ((eval e env >>= fun v => (standAt ypos >>= fun _ => yieldOut env v)) >>= fun x =>
    dropValue (.Yield (some e) ypos) pos x).wrap K H gd lv) fs s P
  have hy : ∀ v, yieldOut env v = yieldValue v := fun v => by simp only [yieldOut, hco, Bool.false_eq_true, if_false]
  simp only [hy]
  refine sx_at ?_
  rw [Sem.bind_eq_wrap', Sem.bind_eq_wrap', Sem.wrap_wrap, Sem.wrap_wrap]
  refine sx_wrap (noE (wpAny_mono h (fun v s' h' => ?_) fun _ _ x => x))
  refine sx_at ?_
  show SegX (model prog w) A c (.yield v (gd false) (lv _) _) fs s' P
  rw [hgd]
  exact s_yield prog w A c fs P s' v _ _ hfs hfg fun p => h' _ _ p fun s'' P' hx => hx
theorem sx_If {test : Expr} {b o : List Stmt} {pos : Pos}
    (h : wpAny (model prog w) (A.over c fs) (isTrue test env (eval test env)) (fun bb s' => SegX (model prog w) A c ((if bb = true then execs b env else execs o env).wrap K H gd lv) fs s' P) No s) :
    SegX (model prog w) A c ((exec (.If test b o pos) env).wrap K H gd lv) fs s P := by
  rw [exec_If]
  refine sx_bind_wrap (wpAny_standAt (sx_bind_wrap (noE (wpAny_mono h (fun bb s' h' => ?_) fun _ _ x => x))))
  cases bb <;> exact h'
theorem sx_simple {st : Stmt} (h : wpAny (model prog w) (A.over c fs) (exec st env) (fun f s' => SegX (model prog w) A c (K f) fs s' P) No s) :
    SegX (model prog w) A c ((exec st env).wrap K H gd lv) fs s P := sx_wrap (noE h)
/-- what a loop's end is handed to -/
def backK (env : Env) (K : Flow → Sem Fin) (H : Value → Sem Fin) (gd : Bool → Bool) (lv : List Value → List Value) (r : Result) : Sem Fin :=
  ((match r with | .ok f => (.pure f : Sem Flow) | .error e => .raise e).onRaise fun (x : Value) => do
        if (← field x 1) == Value.none then unsupported "frame.own-activation:exception-without-traceback"
        setFlight x env.frame).wrap K H gd lv
theorem sx_For {target iter : Expr} {body orelse : List Stmt} {pos : Pos}
    (h : wpAny (model prog w) (A.over c fs) (eval iter env) (fun x s₁ => wpAny (model prog w) (A.over c fs) (pyIter x) (fun it s₂ =>
      ∀ p, SegX (model prog w) A (.forLoop target it body orelse env) ((model prog w).den (.forLoop target it body orelse env)) (.ret (backK env K H gd lv) none (gd false) (lv []) c p [] :: fs) s₂ P) No s₁) No s)
    (hs : ∀ x, foldedSetIterable iter env x = pure x := by intro _; rfl) :
    SegX (model prog w) A c ((exec (.For target iter body orelse pos) env).wrap K H gd lv) fs s P := by
  rw [exec_For]
  refine sx_bind_wrap (wpAny_standAt (sx_bind_wrap (noE (wpAny_mono h (fun x s₁ h₁ => ?_) fun _ _ e => e))))
  refine sx_bind_wrap (wpAny_of_eq (hs x) (sx_bind_wrap (wpAny_standAt (sx_bind_wrap (wpAny_holding (noE (wpAny_mono h₁ (fun it s₂ h₂ => ?_) fun _ _ e => e)))))))
  exact sx_call h₂
/-- a frame's note on what goes up -/
def noteK (env : Env) (e : Value) : Sem Fin := (do noteFrame e env; theTreesLotGoes e : Sem Unit).wrap (fun _ => .raise e) .raise id id
def loopK (target : Expr) (it : Value) (body orelse : List Stmt) (env : Env) : Flow → Sem Fin
  | .next | .cont => .pure (.again (.forLoop target it body orelse env))
  | .brk => .pure (.done .next)
  | .ret v => .pure (.done (.ret v))
theorem sx_forLoop {target : Expr} {it : Value} {body orelse : List Stmt}
    (h : wpAny (model prog w) (A.over (.forLoop target it body orelse env) fs) (pyNext it) (fun r s₁ => match r with
      | none => SegX (model prog w) A (.block orelse env) ((model prog w).den (.block orelse env)) fs s₁ P
      | some v => wpAny (model prog w) (A.over (.forLoop target it body orelse env) fs) (letOwnedTupleGo target it v) (fun _ s₂ => wpAny (model prog w) (A.over (.forLoop target it body orelse env) fs) (assign target env v) (fun _ s₃ =>
          SegX (model prog w) A (.forLoop target it body orelse env) ((execs body env).wrap (loopK target it body orelse env) (noteK env) id id) fs s₃ P) No s₂) No s₁) No s) :
    SegX (model prog w) A (.forLoop target it body orelse env) ((model prog w).den (.forLoop target it body orelse env)) fs s P := by
  show SegX _ A _ ((forTurn target it body orelse env).onRaise (fun x => do noteFrame x env; theTreesLotGoes x)) fs s P
  unfold forTurn
  rw [Sem.onRaise_eq_wrap]
  refine sx_bind_wrap (wpAny_standAt (sx_bind_wrap (wpAny_onRaise (wpAny_mono h (fun r s₁ h₁ => ?_) fun _ _ x => x.elim))))
  cases r with
  | none => exact sx_again rfl h₁
  | some v =>
    refine sx_bind_wrap (noE (wpAny_mono h₁ (fun _ s₂ h₂ => ?_) fun _ _ x => x))
    refine sx_bind_wrap (noE (wpAny_mono h₂ (fun _ s₃ h₃ => ?_) fun _ _ x => x))
    rw [Sem.bind_eq_wrap', Sem.wrap_wrap]
    rw [Sem.wrap_congr (execs body env) _ _ (K' := loopK target it body orelse env) (H' := noteK env)
      (fun f => by cases f <;> rfl) (fun e => by first | exact Sem.bind_eq_wrap _ _ | (show (do noteFrame e env; theTreesLotGoes e : Sem Unit).bind (fun _ => .raise e) = _; rw [Sem.bind_eq_wrap]; rfl))]
    exact h₃
theorem sx_While {test : Expr} {body orelse : List Stmt} {pos : Pos}
    (h : ∀ p, SegX (model prog w) A (.whileLoop test body orelse env) ((model prog w).den (.whileLoop test body orelse env)) (.ret (backK env K H gd lv) none (gd false) (lv []) c p [] :: fs) s P) :
    SegX (model prog w) A c ((exec (.While test body orelse pos) env).wrap K H gd lv) fs s P :=
  sx_at (sx_call h)
def turnK (test : Expr) (body orelse : List Stmt) (env : Env) : Flow → Sem Fin
  | .next | .cont => .pure (.again (.whileLoop test body orelse env))
  | .brk => .pure (.done .next)
  | .ret v => .pure (.done (.ret v))
theorem sx_whileTrue {test : Expr} {body orelse : List Stmt}
    (h : wpAny (model prog w) (A.over (.whileLoop test body orelse env) fs) (isTrue test env (eval test env)) (fun b s' => b = true ∧
          SegX (model prog w) A (.whileLoop test body orelse env) ((execs body env).wrap (turnK test body orelse env) (noteK env) id id) fs s' P) No s) :
    SegX (model prog w) A (.whileLoop test body orelse env) ((model prog w).den (.whileLoop test body orelse env)) fs s P := by
  show SegX _ A _ ((whileTurn test body orelse env).onRaise (fun x => do noteFrame x env; theTreesLotGoes x)) fs s P
  unfold whileTurn
  rw [Sem.onRaise_eq_wrap]
  refine sx_bind_wrap (noE (wpAny_mono h (fun b s' hb => ?_) fun _ _ x => x))
  obtain ⟨rfl, hb⟩ := hb
  rw [if_pos rfl, Sem.bind_eq_wrap', Sem.wrap_wrap]
  rw [Sem.wrap_congr (execs body env) _ _ (K' := turnK test body orelse env) (H' := noteK env)
      (fun f => by cases f <;> rfl) (fun e => by first | exact Sem.bind_eq_wrap _ _ | (show (do noteFrame e env; theTreesLotGoes e : Sem Unit).bind (fun _ => .raise e) = _; rw [Sem.bind_eq_wrap]; rfl))]
  exact hb
def funcK : Flow → Sem Fin := fun f => .pure (.done (.ret (match f with | .ret v => v | _ => .none)))
def leaveK (env : Env) (e : Value) : Sem Fin := (leaving env e).wrap (fun _ => .raise e) .raise id id
theorem sx_func {body : List Stmt}
    (h : SegX (model prog w) A (.func body env) ((execs body env).wrap funcK (leaveK env) id id) fs s P) :
    SegX (model prog w) A (.func body env) ((model prog w).den (.func body env)) fs s P := by
  show SegX _ A _ (.point [] fun _ => ((execs body env).onRaise (leaving env)) >>= _) fs s P
  refine sx_point ?_
  rw [Sem.onRaise_eq_wrap, Sem.bind_eq_wrap', Sem.wrap_wrap]
  rw [Sem.wrap_congr (execs body env) _ _ (K' := funcK)
    (H' := leaveK env) (fun f => by cases f <;> rfl)
    (fun e => by rw [Sem.bind_eq_wrap, Sem.wrap_wrap]; rfl)]
  exact h
theorem sx_end {r : Result} {t : Sem Fin} (ht : t = leafOf r) (h : P (.ret r) s) : SegX (model prog w) A c t [] s P := s_end prog w A c P s r t ht h
theorem sx_back {f : Flow} {t : Sem Fin} {c₁ : Code} {p₁ : Pos} {l : List Value} {g : Bool} {hd : Option Value} (ht : t = leafOf (.ok f)) (h : SegX (model prog w) A c₁ (K f) fs s P) : SegX (model prog w) A c t (.ret (backK env K H gd lv) hd g l c₁ p₁ [] :: fs) s P :=
  s_pop prog w A c fs P s (.ok f) t ht _ hd g l c₁ p₁ [] h
theorem sx_block_nil (h : SegX (model prog w) A (.block [] env) (.pure (.done .next)) fs s P) : SegX (model prog w) A (.block [] env) ((model prog w).den (.block [] env)) fs s P := h
end
end Mine
end

section
open PySem PySem.W PyProof.Rows PySem.Calls
/-- the walker's notes of the text before are put away -/
theorem Mine.freshGr {prog : Program} {w : World} {A : Around} {env : Env} {Q : Flow → Shared → Prop} {E : Value → Shared → Prop} {s : Shared} (h : Q .next s) : wpAny (model prog w) A (execs [] env) Q E s := by
  w_on
  w_top off
  k_with_none
  walk1
  exact h
end
section
open PySem PySem.W PySem.W.X PyProof.Rows PySem.Calls
set_option maxRecDepth 100000
set_option linter.all false
namespace Mine
def Lives (base : Heap) (own : List (Addr × Obj)) (h : Heap) : Prop := (∀ (b : Nat) (o : Obj), base.get? b = some o → h.get? b = some o) ∧ ∀ p ∈ own, h.get? p.1 = some p.2
def GMoved (own own' : List (Addr × Obj)) (s₀ s' : Shared) : Prop := ∃ h' tk', s' = { s₀ with heap := h', toks := tk' } ∧ (∀ (b : Nat) (o : Obj), b ∉ own.map (·.1) → s₀.heap.get? b = some o → h'.get? b = some o) ∧ (∀ p ∈ own', h'.get? p.1 = some p.2) ∧ (∀ p ∈ own', p.1 ∈ own.map (·.1) ∨ s₀.heap.get? p.1 = none)
/-- where a generator's next run begins -/
def Begins (gs : GenState) (c₀ : Code) (t₀ : Sem Fin) (fs₀ : List Frame) : Prop :=
  (gs = .fresh c₀ ∧ t₀ = denote table c₀ ∧ fs₀ = []) ∨ (∃ k₀ l₀ p₀ cl, gs = .suspended k₀ l₀ c₀ p₀ fs₀ cl ∧ t₀ = k₀ (.send .none))
/-- how a run of a generator ends -/
def GEnd (inf : Bool) (sz : Int) (fin : Result → Heap → Prop) (next : List (Addr × Obj) → GenState → Prop) (n : Nat) (own : List (Addr × Obj)) (s'' : Shared) (e : End) (s₁ : Shared) : Prop :=
  match e with
  | .susp v g l k c p fs => (∃ t, v = .int sz t) ∧ (n = 0 → inf = true) ∧ ∃ own', GMoved own own' s'' s₁ ∧ next own' (End.susp v g l k c p fs).genState
  | .ret r => n = 0 ∧ inf = false ∧ GMoved own [] s'' s₁ ∧ fin r s₁.heap
/-- a generator that gives sz, n times or more -/
def GR (prog : Program) (w : World) (A : Around) (base : Heap) (inf : Bool) (sz : Int) (fin : Result → Heap → Prop) : Nat → List (Addr × Obj) → GenState → Prop
  | 0, _, _ => True
  | n + 1, own, gs => ∀ s'' : Shared, Lives base own s''.heap → ∃ c₀ t₀ fs₀, Begins gs c₀ t₀ fs₀ ∧ SegX (model prog w) A c₀ t₀ fs₀ s'' (GEnd inf sz fin (GR prog w A base inf sz fin n) n own s'')
section
variable {prog : Program} {w : World} {A : Around} {E : Value → Shared → Prop} {s : Shared}
theorem segx_quiet {M : Model} {c : Code} {t : Sem Fin} {fs : List Frame} {P : End → Shared → Prop} (h : SegX M A c t fs s P) : SegX M A c t fs s fun e s' => e.quiet = true ∧ P e s' := fun Γ p hc hΓ => by
  obtain ⟨e, s', hr, hq, hp⟩ := h Γ p hc hΓ
  exact ⟨e, s', hr, hq, hq, hp⟩
theorem wake_gr {α : Type} {Q : α → Shared → Prop} {g : Nat} {gs : GenState} {l : List Value} {k : GenResult → Sem α} {c₀ : Code} {t₀ : Sem Fin} {fs₀ : List Frame} (hg : s.gens[g]? = some gs) (hb : Begins gs c₀ t₀ fs₀)
    (x : SegX (model prog w) A c₀ t₀ fs₀ (s.setGen g .running) (fun e s₁ => e.quiet = true → wpAny (model prog w) A (k e.result) Q E (s₁.setGen g e.genState))) :
    wpAny (model prog w) A (.resume g (.send .none) l k) Q E s := by
  intro Γ p hΓ
  refine wake_any α prog w (A := A) hg (hb.imp (fun h => ⟨h.1, rfl, h.2⟩) (fun h => h)) (fun Γ => Γ.In A) (fun _ h => h) ((segx_quiet x).mono fun e s₁ h Γ p hC => h.2 h.1 Γ p hC) Γ p hΓ
theorem begins_status {gs : GenState} {c₀ : Code} {t₀ : Sem Fin} {fs₀ : List Frame} (h : Begins gs c₀ t₀ fs₀) : gs.status = .fresh ∨ gs.status = .suspended := by
  rcases h with ⟨rfl, _⟩ | ⟨k₀, l₀, p₀, cl, rfl, _⟩
  · exact .inl rfl
  · exact .inr rfl
theorem next_gr {a : Addr} {g n : Nat} {own : List (Addr × Obj)} {gs : GenState} {base : Heap} {inf : Bool} {sz : Int} {fin : Result → Heap → Prop} {Q : Option Value → Shared → Prop} (hh : A.handled = none) (hl : s.heap.NoLimit) (hroom : A.depth < recursionLimit) (hg : s.heap.IsGen a g) (hgs : s.gens[g]? = some gs)
    (hgo : GR prog w A.in1 base inf sz fin (n + 1) own gs) (hlv : Lives base own s.heap)
    (hY : ∀ t s₁ own' gs', (n = 0 → inf = true) → GMoved own own' (s.setGen g .running) s₁ → gs'.bare = true → GR prog w A.in1 base inf sz fin n own' gs' → Q (some (.int sz t)) (s₁.setGen g gs'))
    (hR : n = 0 → inf = false → ∀ s₁, GMoved own [] (s.setGen g .running) s₁ → fin (.ok (.ret .none)) s₁.heap → ∀ h', (∀ (b : Nat) (o : Obj), s₁.heap.get? b = some o → h'.get? b = some o) → Q none { s₁.setGen g .finished with heap := h' })
    (hX : n = 0 → inf = false → ∀ r s₁, GMoved own [] (s.setGen g .running) s₁ → fin r s₁.heap → r = .ok (.ret .none) ∨ ∃ x, r = .error x ∧ wpAny (model prog w) A.in1 (Builtin.Generator.genLeft (.ref a) x : Sem Fin) (fun _ _ => False) (fun e s' => wpAny (model prog w) A (isInstance e (.type "StopIteration")) (fun b s'' => b = false ∧ E e s'') No s') (s₁.setGen g .finished)) :
    wpAny (model prog w) A (pyNext (.ref a)) Q E s := by
  obtain ⟨c₀, t₀, fs₀, hb, hx⟩ := hgo (s.setGen g .running) hlv
  unfold pyNext
  refine wpAny_bind (wpAny_attempt (wpAny_callSpecial?_slot (name := Str.ofString "__next__") hg.typeIs slot_gen_next
    (wpAny_call_entry slot_gen_next hg.typeIs entry_gen_next ?_ (args_gen_next _))))
  show wpAny _ _ (Builtin.Generator.genWake (.ref a) (.send .none)) _ _ s
  unfold Builtin.Generator.genWake
  refine wpAny_bind (wpAny_holding (wpAny_genNumber hg (wpAny_bind (wpAny_genState hgs ?_))))
  have hb' := hb
  have go : ∀ {k : GenResult → Sem Fin} {Q' : Fin → Shared → Prop} {E' : Value → Shared → Prop},
      (∀ t s₁ own' gs', (n = 0 → inf = true) → GMoved own own' (s.setGen g .running) s₁ → gs'.bare = true → GR prog w A.in1 base inf sz fin n own' gs' → wpAny (model prog w) A.in1 (k (.yielded (.int sz t))) Q' E' (s₁.setGen g gs')) →
      (∀ r s₁, n = 0 → inf = false → GMoved own [] (s.setGen g .running) s₁ → fin r s₁.heap → wpAny (model prog w) A.in1 (k (End.ret r).result) Q' E' (s₁.setGen g .finished)) →
      wpAny (model prog w) A.in1 (.resume g (.send .none) [] k) Q' E' s := by
    intro k Q' E' h1 h2
    refine wake_gr hgs hb' (hx.mono fun e s₁ he hq => ?_)
    cases e with
    | ret r => exact h2 r s₁ he.1 he.2.1 he.2.2.1 he.2.2.2
    | susp v g₀ l₀ k₀ c₁ p₁ fs₁ =>
      obtain ⟨⟨t, rfl⟩, hn, own', hm, hgr⟩ := he
      exact h1 t s₁ own' _ hn hm (End.bare_of_quiet hq) hgr
  have fin' : ∀ {k : GenResult → Sem Fin} {Q' : Fin → Shared → Prop} {E' : Value → Shared → Prop}, True := trivial
  rcases hb with ⟨rfl, _, _⟩ | ⟨k₀, l₀, p₀, cl, rfl, _⟩
  all_goals
    refine wpAny_bind (wpAny_roomToWake hl hroom ?_)
    show wpAny _ _ (.resume g (.send .none) [] _) _ _ s
    refine go (fun t s₁ own' gs' hn hm hbr hgr => ?_) (fun r s₁ hn hi hm hf => ?_)
    · exact wpAny_pure ⟨_, rfl, wpAny_pure (hY t s₁ own' gs' hn hm hbr hgr)⟩
    · rcases hX hn hi r s₁ hm hf with rfl | ⟨x, rfl, hx'⟩
      · show wpAny _ _ (newExc (.type "StopIteration") [] >>= _) _ _ _
        refine wpAny_bind ?_
        simp only [newExc, newTuple]
        refine wpAny_bind (wpAny_newObj_type ?_ (by size_fits))
        refine wpAny_bind (m := firstArgMember _ _) (wpAny_of_eq (a := Value.none) (by first | rfl | (simp only [firstArgMember]; rfl)) ?_)
        refine wpAny_newObj_type ?_ (by size_fits)
        simp only [raiseNew]
        refine wpAny_bind (wpAny_bind (wpAny_handled ?_))
        rw [show A.in1.handled = none from hh]
        refine wpAny_throw ?_
        refine wpAny_bind (wpAny_isInstance (T := "StopIteration") (b := true) ⟨_, Heap.get?_push_size _ rfl, rfl⟩ isSubtype_stop ?_)
        exact wpAny_pure (hR hn hi s₁ hm hf _ fun b o hb => Heap.get?_push_of_some _ (Heap.get?_push_of_some _ hb))
      · show wpAny _ _ (Builtin.Generator.genLeft (.ref a) x) _ _ _
        refine wpAny_mono hx' (fun _ _ h => h.elim) fun e s' h => ?_
        refine wpAny_bind (wpAny_mono h (fun b s'' hb => ?_) fun _ _ h => h.elim)
        obtain ⟨rfl, hE⟩ := hb
        exact wpAny_throw hE
end
end Mine
end

section
open PySem PySem.W PyProof.Rows PySem.Calls
/-- the walker's notes of the text before are put away -/
theorem Mine.freshGs {prog : Program} {w : World} {A : Around} {env : Env} {Q : Flow → Shared → Prop} {E : Value → Shared → Prop} {s : Shared} (h : Q .next s) : wpAny (model prog w) A (execs [] env) Q E s := by
  w_on
  w_top off
  k_with_none
  walk1
  exact h
end
section
open PySem PySem.W PySem.W.X PyProof.Rows PySem.Calls
set_option maxRecDepth 100000
set_option linter.all false
namespace Mine
theorem bare_set {G : Array GenState} {g : Nat} {x : GenState} (h : AllBare G) (hx : x.bare = true) : AllBare (G.setIfInBounds g x) := by
  intro y hy
  obtain ⟨i, hi⟩ := Array.mem_iff_getElem?.mp hy
  rw [Array.getElem?_setIfInBounds] at hi
  split at hi
  · split at hi
    · cases hi; exact hx
    · cases hi
  · exact h y (Array.mem_iff_getElem?.mpr ⟨i, hi⟩)
theorem gens_set {s : Shared} {g : Nat} {x : GenState} : (s.setGen g x).gens = s.gens.setIfInBounds g x := rfl
theorem set_self {G : Array GenState} {g : Nat} {gs x y : GenState} (h : G[g]? = some gs) : ((G.setIfInBounds g x).setIfInBounds g y)[g]? = some y := by
  have hlt : g < G.size := (Array.getElem?_eq_some_iff.mp h).1
  simp [hlt]
section
variable {prog : Program} {w : World} {A : Around} {E : Value → Shared → Prop} {s : Shared} {env : Env} {h₀ : Heap} {target : Expr} {body : List Stmt} {Q : Flow → Shared → Prop}
/-- a made generator -/
structure GenIs (prog : Program) (w : World) (A : Around) (h₀ : Heap) (inf : Bool) (sz : Int) (fin : Result → Heap → Prop) (a : Addr) (oG : Obj) (g : Nat) (n : Nat) (own : List (Addr × Obj)) (gs : GenState) : Prop where
  obj : ∃ nm qn, oG.cls = .type "generator" ∧ oG.data = .fields #[.int g 0, nm, qn] ∧ oG.slots = #[]
  apart : ∀ p ∈ own, p.1 ≠ a
  run : GR prog w A.in1 h₀ inf sz fin n own gs
/-- what the loop over a generator needs -/
inductive GrAt (prog : Program) (w : World) (A : Around) (h₀ : Heap) (env : Env) (target : Expr) (body : List Stmt) (Q : Flow → Shared → Prop) (E : Value → Shared → Prop) (s : Shared) (xv : Value) (s₁ : Shared) : Prop
  | mk (a : Addr) (oG : Obj) (g n : Nat) (own : List (Addr × Obj)) (gs : GenState) (inf : Bool) (sz : Int) (fin : Result → Heap → Prop) (J : Nat → (Str → Option Value) → List (Addr × Obj) → Prop) (h : Heap) (tk : Nat) (G : Array GenState) (m₁ : Str → Option Value) (news₁ : List (Addr × Obj)) (x0 : xv = .ref a) (x1 : s₁ = { s with heap := h, toks := tk, gens := G }) (x2 : GenIs prog w A h₀ inf sz fin a oG g (n + 1) own gs) (x3 : G[g]? = some gs) (x4 : AllBare G) (x5 : Fr h₀ env.locals h m₁) (x6 : News h₀ env.locals h (news₁ ++ (a, oG) :: own)) (x7 : OwnOff ((a, oG) :: own) (news₁.map (·.1))) (x8 : J (n + 1) m₁ news₁) (x9 : (∀ n t m₁ news₁ own h tk G, J (n + 1) m₁ news₁ → (n = 0 → inf = true) → AllBare G → OwnOff own (news₁.map (·.1)) → Fr h₀ env.locals h m₁ → News h₀ env.locals h (news₁ ++ own) → wpAny (model prog w) A (assign target env (.int sz t)) (fun _ s₂ => wpAny (model prog w) A (execs body env) (TurnEnd h₀ env.locals (fun m₂ news₂ => 1 ≤ n ∧ J n m₂ news₂) own { s with gens := G } Q) E s₂) E { s with heap := h, toks := tk, gens := G })) (x10 : (∀ m₁ news₁ h tk G, J 1 m₁ news₁ → inf = false → AllBare G → Fr h₀ env.locals h m₁ → News h₀ env.locals h news₁ → Q .next { s with heap := h, toks := tk, gens := G })) (x11 : (∀ r h tk m₁ news₁ G, J 1 m₁ news₁ → inf = false → AllBare G → Fr h₀ env.locals h m₁ → News h₀ env.locals h (news₁ ++ [(a, oG)]) → OwnOff [(a, oG)] (news₁.map (·.1)) → fin r h → r = .ok (.ret .none) ∨ ∃ x T, r = .error x ∧ (∀ s' : Shared, s'.heap = h → s'.TypeIs x T) ∧ isSubtype (.type T) (.type "StopIteration") = pure false ∧ E x { s with heap := h, toks := tk, gens := G })) : GrAt prog w A h₀ env target body Q E s xv s₁
/-- what holds at each turn -/
inductive GrInv (prog : Program) (w : World) (A : Around) (h₀ : Heap) (L : Addr) (s : Shared) (inf : Bool) (sz : Int) (fin : Result → Heap → Prop) (a : Addr) (oG : Obj) (g : Nat) (J : Nat → (Str → Option Value) → List (Addr × Obj) → Prop) (k : Nat) (s' : Shared) : Prop
  | mk (x0 : 1 ≤ k) (h : Heap) (tk : Nat) (G : Array GenState) (m₁ : Str → Option Value) (news₁ own : List (Addr × Obj)) (gs : GenState) (x1 : s' = { s with heap := h, toks := tk, gens := G }) (x2 : GenIs prog w A h₀ inf sz fin a oG g k own gs) (x3 : G[g]? = some gs) (x4 : AllBare G) (x5 : Fr h₀ L h m₁) (x6 : News h₀ L h (news₁ ++ (a, oG) :: own)) (x7 : OwnOff ((a, oG) :: own) (news₁.map (·.1))) (x8 : J k m₁ news₁) : GrInv prog w A h₀ L s inf sz fin a oG g J k s'
theorem For_gr {iter : Expr} {pos : Pos} {m : Str → Option Value} (_F : Fr h₀ env.locals s.heap m) (ht : ∃ x p, target = .Name x p) (hh : A.handled = none) (hl : h₀.NoLimit) (hroom : A.depth < recursionLimit)
    (heval : wpAny (model prog w) A (eval iter env) (GrAt prog w A h₀ env target body Q E s) E s)
    (hs : ∀ x, foldedSetIterable iter env x = pure x := by intro _; rfl)
    (hE : PassesOwn (model prog w) A env E := by passes_own) :
    wpAny (model prog w) A (exec (.For target iter body [] pos) env) Q E s := by
  refine wpAny_For (wpAny_mono heval (fun xv s₁ h₁ => ?_) fun _ _ e => e) hs
  obtain ⟨a, oG, g, n, own, gs, inf, sz, fin, J, h, tk, G, m₁, news₁, rfl, rfl, hG, hgs, hbr, F₁, N₁, off, hJ, turn, done, err⟩ := h₁
  have isG : ∀ (h : Heap), h.get? a = some oG → h.IsGen a g := fun h e => by
    obtain ⟨nm, qn, e1, e2, e3⟩ := hG.obj
    exact ⟨oG, nm, qn, e, e1, e2, e3⟩
  refine wpAny_pyIter_gen (isG h (N₁ (a, oG) (by simp)).1) ?_
  refine codeAny_forLoop_any
    (GrInv prog w A h₀ env.locals s inf sz fin a oG g J) ?_ (n + 1)
    ⟨by omega, h, tk, G, m₁, news₁, own, gs, rfl, hG, hgs, hbr, F₁, N₁, off, hJ⟩
  clear hJ off N₁ F₁ hbr hgs hG
  rintro k s' ⟨hk, h, tk, G, m₁, news₁, own, gs, rfl, hG, hgs, hbr, F₁, N₁, off, hJ⟩
  obtain ⟨n', rfl⟩ : ∃ n', k = n' + 1 := ⟨k - 1, by omega⟩
  have Na := N₁ (a, oG) (by simp)
  have frm : ∀ h₃ : Heap, (∀ (b : Nat) (o : Obj), b ∉ own.map (·.1) → h.get? b = some o → h₃.get? b = some o) → Fr h₀ env.locals h₃ m₁ ∧ News h₀ env.locals h₃ (news₁ ++ [(a, oG)]) := by
    intro h₃ he
    have hL : env.locals ∉ own.map (·.1) := fun hm => by
      obtain ⟨p, hp, e⟩ := List.mem_map.mp hm
      exact (N₁ p (by simp [hp])).2.1 e
    refine ⟨⟨F₁.ns.at' fun o e => he _ o hL e, fun b o e => he b o (fun hm => ?_) (F₁.keep b o e), F₁.above⟩, fun p hp => ?_⟩
    · obtain ⟨p, hp, e'⟩ := List.mem_map.mp hm
      have := (N₁ p (by simp [hp])).2.2
      rw [e', e] at this; cases this
    · rcases List.mem_append.mp hp with hp | hp
      · refine ⟨he _ _ (fun hm => ?_) (N₁ p (by simp [hp])).1, (N₁ p (by simp [hp])).2⟩
        obtain ⟨q, hq, e'⟩ := List.mem_map.mp hm
        exact off q (by simp [hq]) p.1 (List.mem_map_of_mem hp) e'
      · rw [List.mem_singleton.mp hp]
        refine ⟨he _ _ (fun hm => ?_) Na.1, Na.2⟩
        obtain ⟨q, hq, e'⟩ := List.mem_map.mp hm
        exact hG.apart q hq e'
  have offa : OwnOff [(a, oG)] (news₁.map (·.1)) := fun p hp b hb => off p (by rw [List.mem_singleton.mp hp]; simp) b hb
  refine next_gr hh (hl.keeps F₁.keep) hroom (isG h Na.1) hgs hG.run ⟨F₁.keep, fun p hp => (N₁ p (by simp [hp])).1⟩ ?hY ?hR ?hX
  case hR =>
    rintro rfl hi s₁ ⟨h', tk', rfl, hk', _⟩ _ h'' hk''
    obtain ⟨F₃, N₃⟩ := frm h'' fun b o hb e => hk'' b o (hk' b o hb e)
    refine wpAny_execs_nil ?_
    exact done m₁ news₁ h'' tk' _ hJ hi (bare_set (bare_set hbr rfl) rfl) F₃ fun p hp => N₃ p (by simp [hp])
  case hX =>
    rintro rfl hi r s₁ ⟨h', tk', rfl, hk', _⟩ hf
    obtain ⟨F₃, N₃⟩ := frm h' hk'
    rcases err r h' tk' m₁ news₁ ((G.setIfInBounds g .running).setIfInBounds g .finished) hJ hi (bare_set (bare_set hbr rfl) rfl) F₃ N₃ offa hf with h | ⟨x, T, e, hT, hsub, hEx⟩
    · exact .inl h
    · refine .inr ⟨x, e, ?_⟩
      obtain ⟨nm, qn, e1, e2, e3⟩ := hG.obj
      unfold Builtin.Generator.genLeft Builtin.Generator.madeByALambda
      refine wpAny_bind (wpAny_bind (wpAny_load (o := oG) (N₃ (a, oG) (by simp)).1 (wpAny_pure ?_)))
      rw [e2]
      simp only [e1]
      refine wpAny_bind (wpAny_isInstance (b := false) (hT _ rfl) hsub ?_)
      simp only [Bool.and_false, Bool.false_eq_true, if_false]
      unfold Builtin.Generator.genEscaped
      refine wpAny_bind (wpAny_isInstance (b := false) (hT _ rfl) hsub ?_)
      simp only [Bool.not_false, if_true]
      refine wpAny_throw ?_
      exact wpAny_isInstance (b := false) (hT _ rfl) hsub ⟨rfl, hE _ _ hEx⟩
  case hY =>
    rintro t s₁ own' gs' hn ⟨h', tk', rfl, hk', ho', hf'⟩ hb' hgr
    obtain ⟨F₃', N₃⟩ := frm h' hk'
    have Nown : ∀ p ∈ own', p.1 ≠ env.locals ∧ h₀.get? p.1 = none ∧ p.1 ≠ a ∧ ∀ b ∈ news₁.map (·.1), p.1 ≠ b := by
      intro p hp
      rcases hf' p hp with hm | hge
      · obtain ⟨q, hq, e⟩ := List.mem_map.mp hm
        rw [← e]
        exact ⟨(N₁ q (by simp [hq])).2.1, (N₁ q (by simp [hq])).2.2, hG.apart q hq, off q (by simp [hq])⟩
      · have hge' : h.get? p.1 = none := hge
        have lt : ∀ (b : Nat) (o : Obj), h.get? b = some o → p.1 ≠ b := fun b o e q => by
          rw [q, e] at hge'; cases hge'
        obtain ⟨oL, _, _, hoL, _⟩ := id F₁.ns
        refine ⟨lt _ _ hoL, ?_, lt _ _ Na.1, fun b hb => ?_⟩
        · cases q : h₀.get? p.1 with
          | none => rfl
          | some o => exact absurd rfl (lt _ _ (F₁.keep _ _ q))
        · obtain ⟨q, hq, rfl⟩ := List.mem_map.mp hb
          exact lt _ _ (N₁ q (by simp [hq])).1
    have N₃' : News h₀ env.locals h' (news₁ ++ (a, oG) :: own') := by
      intro p hp
      rcases List.mem_append.mp hp with hp | hp
      · exact N₃ p (by simp [hp])
      · rcases List.mem_cons.mp hp with rfl | hp
        · exact N₃ _ (by simp)
        · exact ⟨ho' p hp, (Nown p hp).1, (Nown p hp).2.1⟩
    have off' : OwnOff ((a, oG) :: own') (news₁.map (·.1)) := by
      intro p hp b hb
      rcases List.mem_cons.mp hp with rfl | hp
      · exact offa _ (.head _) b hb
      · exact (Nown p hp).2.2.2 b hb
    obtain ⟨x, px, rfl⟩ := ht
    refine goN ?_
    have hG' : GenIs prog w A h₀ inf sz fin a oG g n' own' gs' := ⟨hG.obj, fun p hp => (Nown p hp).2.2.1, hgr⟩
    have hgs' : ((G.setIfInBounds g .running).setIfInBounds g gs')[g]? = some gs' := set_self hgs
    have hbr2 : AllBare ((G.setIfInBounds g .running).setIfInBounds g gs') := bare_set (bare_set hbr rfl) hb'
    have T1 := turn n' t m₁ news₁ ((a, oG) :: own') h' tk' ((G.setIfInBounds g .running).setIfInBounds g gs') hJ hn hbr2 off' F₃' N₃'
    refine wpAny_passesOwn hE (wpAny_mono T1 (fun _ s₂ h₃ => ?_) fun _ _ e => e)
    refine wpAny_passesOwn hE (wpAny_mono h₃ (fun f s₃ h₄ => ?_) fun _ _ e => e)
    have nxt : (∃ h' tk m₂ news₂, s₃ = { ({ s with gens := (G.setIfInBounds g .running).setIfInBounds g gs' } : Shared) with heap := h', toks := tk } ∧ Fr h₀ env.locals h' m₂ ∧ News h₀ env.locals h' (news₂ ++ (a, oG) :: own') ∧ OwnOff ((a, oG) :: own') (news₂.map (·.1)) ∧ 1 ≤ n' ∧ J n' m₂ news₂) →
        ∃ m, m < n' + 1 ∧ GrInv prog w A h₀ env.locals s inf sz fin a oG g J m s₃ := by
      rintro ⟨h₅, tk₅, m₅, news₅, rfl, F₅, N₅, off₅, h1, hJ₅⟩
      exact ⟨n', by omega, h1, h₅, tk₅, _, m₅, news₅, own', gs', rfl, hG', hgs', hbr2, F₅, N₅, off₅, hJ₅⟩
    cases f with
    | ret v => exact h₄
    | brk => exact h₄
    | next => exact nxt h₄
    | cont => exact nxt h₄
end
end Mine
end

section
open PySem PySem.W PyProof.Rows PySem.Calls
/-- the walker's notes of the text before are put away -/
theorem Mine.freshGm {prog : Program} {w : World} {A : Around} {env : Env} {Q : Flow → Shared → Prop} {E : Value → Shared → Prop} {s : Shared} (h : Q .next s) : wpAny (model prog w) A (execs [] env) Q E s := by
  w_on
  w_top off
  k_with_none
  walk1
  exact h
end
section
open PySem PySem.W PySem.W.X PyProof.Rows PySem.Calls
set_option maxRecDepth 100000
set_option linter.all false
namespace Mine
section
variable {prog : Program} {w : World} {A : Around} {s : Shared} {h₀ : Heap} {L : Addr} {m : Str → Option Value} {news : List (Addr × Obj)} {K : Frag} {p : Program} {loose : List Str} {mean : ExcName → Option Value} {mg mb : Str → Option Value}
theorem call_gen {R : Result → Shared → Prop} {name qual : Str} {params : Arguments} {body : List Stmt} {scope : Scope} {dV kV doc pm cdv ct oc : Value} {an od : Option Addr} {osl : Array (Option Value)} {f : Addr} {args : Args} {binds : List (Str × Value)}
    (F : Fr h₀ L s.heap m) (X₀ : K.In h₀) (N : News h₀ L s.heap news) (T : Top p loose mean mg mb h₀)
    (ho : K.lookup f = some ⟨oc, od, .func (fnOf name qual params body scope dV kV doc pm an cdv ct), osl⟩) (hcd : codeIn K cdv qual = true) (hroom : A.depth < recursionLimit)
    (hbind : BindsTo s (fnOf name qual params body scope dV kV doc pm an cdv ct) args binds) (hloc : ∀ y ∈ binds, scope.names.lookup y.1 = some .local)
    (h : ∀ C G oC oG h' tk', Fr h₀ L h' m → News h₀ L h' ((G, oG) :: (C, oC) :: news) → @LT.lt Nat _ C G → (∀ q ∈ news, @LT.lt Nat _ q.1 C) → LCg.NsObj oC (fun y => binds.reverse.lookup y) → @LE.le Nat _ h₀.objs.size C →
      (∃ nm qn, oG.cls = .type "generator" ∧ oG.data = .fields #[.int s.gens.size 0, nm, qn] ∧ oG.slots = #[]) →
      R (.ok (.ret (.ref G))) { s with heap := h', toks := tk', gens := s.gens.push (.fresh (.func body (envOf qual scope C f cdv))) })
    (hco : scope.isCoroutine = false) (hgen : scope.isGenerator = true) (hk : scope.kind = .function)
    (hcell : ∀ x ∈ scope.names, x.2 ≠ .cell) : codeAny (model prog w) A (.call (.ref f) args) R s := by
  have X := X₀.keeps F.keep
  refine codeAny_call_generator (fd := fnOf name qual params body scope dV kV doc pm an cdv ct) (body := body) hroom (X _ _ ho) rfl hco hgen rfl (codeRec_of X hcd) (hbind _ _ _ _ ?_)
  refine wpAny_newFunctionEnv hcell hloc (fun h₁ hns hsb => ?_) hk
  have old : ∀ (b : Nat) (o : Obj), s.heap.get? b = some o → h₁.get? b = some o := fun b o e => hsb.extBut b o (Nat.ne_of_lt (Heap.lt_size e)) (Heap.get?_push_of_some _ e)
  refine ⟨(T.nolimit.keeps F.keep).keeps old, ?_⟩
  obtain ⟨oC, hC, hCo⟩ := LCg.ns_obj hns
  have hCG : @LT.lt Nat _ s.heap.objs.size h₁.objs.size := Heap.lt_size hC
  obtain ⟨oL, _, _, hoL, _⟩ := id F.ns
  have hLC : @LT.lt Nat _ L s.heap.objs.size := Heap.lt_size hoL
  have none_of : ∀ b : Nat, s.heap.objs.size ≤ b → h₀.get? b = none := fun b hb => by
    cases q : h₀.get? b with
    | none => rfl
    | some o =>
      have : @LT.lt Nat _ b s.heap.objs.size := Heap.lt_size (F.keep b o q)
      omega
  have up : ∀ (g : Obj) (b : Nat) (o : Obj), s.heap.get? b = some o → (h₁.push g).get? b = some o := fun g b o e => Heap.get?_push_of_some _ (old b o e)
  have ha : @LE.le Nat _ h₀.objs.size L := F.above
  refine h s.heap.objs.size h₁.objs.size oC { cls := .type "generator", data := .fields #[.int s.gens.size 0, .str name (s.toks + binds.length), .str qual (s.toks + binds.length + 1)] } _ _ ⟨F.ns.keeps (up _), fun b o e => up _ b o (F.keep b o e), F.above⟩ ?_ hCG (fun q hq => Heap.lt_size (N q hq).1) hCo (by omega) ⟨_, _, rfl, rfl, rfl⟩
  intro q hq
  rcases List.mem_cons.mp hq with rfl | hq
  · exact ⟨Heap.get?_push_size _ rfl, neN (by show @Ne Nat h₁.objs.size L; omega), none_of _ (by show @LE.le Nat _ _ h₁.objs.size; omega)⟩
  · rcases List.mem_cons.mp hq with rfl | hq
    · exact ⟨Heap.get?_push_of_some _ hC, neN (by show @Ne Nat s.heap.objs.size L; omega), none_of _ (Nat.le_refl _)⟩
    · exact ⟨up _ _ _ (N q hq).1, (N q hq).2⟩
/-- all else that lives -/
structure Oth (h₀ : Heap) (own : List (Addr × Obj)) (h : Heap) (oth : List (Addr × Obj)) : Prop where
  all : ∀ (b : Nat) (o : Obj), b ∉ own.map (·.1) → h₀.get? b = none → h.get? b = some o → (b, o) ∈ oth
  sound : ∀ q ∈ oth, h.get? q.1 = some q.2 ∧ q.1 ∉ own.map (·.1) ∧ h₀.get? q.1 = none
theorem oth_of (h₀ : Heap) (own : List (Addr × Obj)) (h : Heap) : ∃ oth, Oth h₀ own h oth := by
  refine ⟨(List.range h.objs.size).filterMap fun b => if b ∈ own.map (·.1) ∨ (h₀.get? b).isSome then none else (h.get? b).map fun o => (b, o), ?_, ?_⟩
  · intro b o h1 h2 h3
    have : @LT.lt Nat _ b h.objs.size := Heap.lt_size h3
    refine List.mem_filterMap.mpr ⟨b, List.mem_range.mpr this, ?_⟩
    rw [if_neg (by rw [h2]; simp only [Option.isSome_none, Bool.false_eq_true, or_false]; exact h1), h3]; rfl
  · intro q hq
    obtain ⟨b, _, hb⟩ := List.mem_filterMap.mp hq
    split at hb
    · cases hb
    · rename_i hn
      cases e : h.get? b with
      | none => rw [e] at hb; cases hb
      | some o =>
        rw [e] at hb
        cases hb
        refine ⟨e, fun hm => hn (.inl hm), ?_⟩
        cases q : h₀.get? b with
        | none => rfl
        | some o' => exact absurd (.inr (by simp [q])) hn
theorem gstart {C : Addr} {oC : Obj} {own : List (Addr × Obj)} {mC : Str → Option Value} {h : Heap} (hlv : Lives h₀ ((C, oC) :: own) h) (hoC : LCg.NsObj oC mC) (hle : @LE.le Nat _ h₀.objs.size C) (ha : ∀ q ∈ own, q.1 ≠ C ∧ h₀.get? q.1 = none) :
    ∃ oth, Oth h₀ ((C, oC) :: own) h oth ∧ Fr h₀ C h mC ∧ News h₀ C h (own ++ oth) := by
  obtain ⟨oth, O⟩ := oth_of h₀ ((C, oC) :: own) h
  refine ⟨oth, O, ⟨hoC.ns (hlv.2 _ (.head _)), hlv.1, hle⟩, fun q hq => ?_⟩
  rcases List.mem_append.mp hq with hq | hq
  · exact ⟨hlv.2 _ (.tail _ hq), ha q hq⟩
  · obtain ⟨h1, h2, h3⟩ := O.sound q hq
    exact ⟨h1, fun e => h2 (by simp [e]), h3⟩
theorem gend {C : Addr} {oC : Obj} {own own' oth : List (Addr × Obj)} {m' : Str → Option Value} {s : Shared} {h' : Heap} (hlv : Lives h₀ ((C, oC) :: own) s.heap) (O : Oth h₀ ((C, oC) :: own) s.heap oth) (F : Fr h₀ C h' m') (N : News h₀ C h' (own' ++ oth)) (hf : ∀ q ∈ own', q.1 ∈ own.map (·.1) ∨ s.heap.get? q.1 = none) :
    ∃ oC', LCg.NsObj oC' m' ∧ h'.get? C = some oC' ∧ ∀ tk', GMoved ((C, oC) :: own) ((C, oC') :: own') s { s with heap := h', toks := tk' } := by
  obtain ⟨oC', e, hn⟩ := LCg.ns_obj F.ns
  refine ⟨oC', hn, e, fun tk' => ⟨h', tk', rfl, fun b o hb eb => ?_, fun q hq => ?_, fun q hq => ?_⟩⟩
  · cases q : h₀.get? b with
    | some o' =>
      have := hlv.1 b o' q
      rw [eb] at this
      cases this
      exact F.keep b o q
    | none => exact (N _ (List.mem_append_right _ (O.all b o hb q eb))).1
  · rcases List.mem_cons.mp hq with rfl | hq
    · exact e
    · exact (N q (List.mem_append_left _ hq)).1
  · rcases List.mem_cons.mp hq with rfl | hq
    · exact .inl (by simp)
    · rcases hf q hq with h | h
      · exact .inl (List.mem_cons_of_mem _ h)
      · exact .inr h
theorem fresh_gone {C I : Addr} {oC : Obj} {own oth : List (Addr × Obj)} {m' : Str → Option Value} {h h₁ : Heap} (hlv : Lives h₀ ((C, oC) :: own) h) (O : Oth h₀ ((C, oC) :: own) h oth) (F : Fr h₀ C h₁ m') (N : News h₀ C h₁ (own ++ oth)) (hI : I = h₁.objs.size) : h.get? I = none := by
  have no : ∀ (o : Obj), h₁.get? I ≠ some o := fun o e => by
    have : @LT.lt Nat _ I h₁.objs.size := Heap.lt_size e
    rw [hI] at this
    exact absurd this (Nat.lt_irrefl _)
  cases e : h.get? I with
  | none => rfl
  | some o =>
    exfalso
    by_cases hm : I ∈ ((C, oC) :: own).map (·.1)
    · rcases List.mem_cons.mp hm with h1 | h1
      · obtain ⟨o', _, _, e', _⟩ := id F.ns
        rw [← (show I = C from h1)] at e'
        exact no _ e'
      · obtain ⟨q, hq, e'⟩ := List.mem_map.mp h1
        have := (N q (List.mem_append_left _ hq)).1
        rw [e'] at this
        exact no _ this
    · cases q : h₀.get? I with
      | some o' => exact no _ (F.keep _ _ q)
      | none => exact no _ (N _ (List.mem_append_right _ (O.all _ _ hm q e))).1
end
/-- an iterator over a list -/
def ItObj (o : Obj) (l : Addr) (i : Nat) : Prop := o.cls = .type "list_iterator" ∧ o.data = .fields #[.ref l, .int i 0]
section
variable {prog : Program} {w : World} {A : Around} {P : End → Shared → Prop} {c : Code} {fs : List Frame} {s : Shared} {env : Env} {h₀ : Heap} {m : Str → Option Value} {rest : List (Addr × Obj)} {K : Flow → Sem Fin} {H : Value → Sem Fin} {gd : Bool → Bool} {lv : List Value → List Value}
theorem sx_For_list {l : Addr} {its : Array Value} {k : Nat} {target iter : Expr} {body orelse : List Stmt} {pos : Pos}
    (h : wpAny (model prog w) (A.over c fs) (eval iter env) (fun x s₁ => Halt (x = .ref l ∧ ∃ m rest, Fr h₀ env.locals s₁.heap m ∧ News h₀ env.locals s₁.heap ((l, W.listOf its k) :: rest) ∧
      ∀ (I : Addr) oI h₂ p, I = s₁.heap.objs.size → ItObj oI l 0 → Fr h₀ env.locals h₂ m → News h₀ env.locals h₂ ((I, oI) :: (l, W.listOf its k) :: rest) → (∀ q ∈ ((l, W.listOf its k) :: rest), @LT.lt Nat _ q.1 I) →
        SegX (model prog w) A (.forLoop target (.ref I) body orelse env) ((model prog w).den (.forLoop target (.ref I) body orelse env)) (.ret (backK env K H gd lv) none (gd false) (lv []) c p [] :: fs) { s₁ with heap := h₂ } P)) No s)
    (hs : ∀ x, foldedSetIterable iter env x = pure x := by intro _; rfl) :
    SegX (model prog w) A c ((exec (.For target iter body orelse pos) env).wrap K H gd lv) fs s P := by
  refine sx_For (wpAny_mono h (fun x s₁ h₁ => ?_) fun _ _ e => e) hs
  obtain ⟨rfl, m, rest, F, N, go⟩ := h₁
  refine wpAny_pyIter_list ⟨_, (N _ (.head _)).1, rfl, _, rfl⟩ fun p => ?_
  have hI : ∀ (b : Nat) (o : Obj), s₁.heap.get? b = some o → @LT.lt Nat _ b s₁.heap.objs.size := fun b o e => Heap.lt_size e
  obtain ⟨oL, _, _, hoL, _⟩ := id F.ns
  have hIL := hI _ _ hoL
  refine go s₁.heap.objs.size { cls := .type "list_iterator", data := .fields #[.ref l, .int 0 0] } _ p rfl ⟨rfl, rfl⟩ (F.push _) (fun q hq => ?_) fun q hq => hI _ _ (N q hq).1
  rcases List.mem_cons.mp hq with rfl | hq
  · refine ⟨Heap.get?_push_size _ rfl, neN (by show @Ne Nat s₁.heap.objs.size env.locals; omega), ?_⟩
    show h₀.get? s₁.heap.objs.size = none
    cases q : h₀.get? s₁.heap.objs.size with
    | none => rfl
    | some o => exact absurd (hI _ _ (F.keep _ _ q)) (Nat.lt_irrefl _)
  · exact ⟨Heap.get?_push_of_some _ (N q hq).1, (N q hq).2⟩
theorem sx_item {I l : Addr} {oI : Obj} {i k : Nat} {its : Array Value} {v : Value} {x : Str} {px : Pos} {body orelse : List Stmt} (F : Fr h₀ env.locals s.heap m) (N : News h₀ env.locals s.heap ((I, oI) :: (l, W.listOf its k) :: rest)) (hoI : ItObj oI l i) (hv : its[i]? = some v) (hne : ∀ q ∈ ((l, W.listOf its k) :: rest), q.1 ≠ I)
    (h : ∀ h₂ oI', Fr h₀ env.locals h₂ m → News h₀ env.locals h₂ ((I, oI') :: (l, W.listOf its k) :: rest) → ItObj oI' l (i + 1) →
      wpAny (model prog w) (A.over (.forLoop (.Name x px) (.ref I) body orelse env) fs) (assign (.Name x px) env v) (fun _ s₃ => SegX (model prog w) A (.forLoop (.Name x px) (.ref I) body orelse env) ((execs body env).wrap (loopK (.Name x px) (.ref I) body orelse env) (noteK env) id id) fs s₃ P) No { s with heap := h₂ }) :
    SegX (model prog w) A (.forLoop (.Name x px) (.ref I) body orelse env) ((model prog w).den (.forLoop (.Name x px) (.ref I) body orelse env)) fs s P := by
  have zI := N (I, oI) (.head _)
  refine sx_forLoop (wpAny_pyNext_list_item (l := l) (i := i) (x := v) ⟨_, zI.1, hoI.1, hoI.2⟩ ⟨_, (N _ (.tail _ (.head _))).1, rfl, _, rfl⟩ hv fun h₂ hit hs => ?_)
  refine goN ?_
  obtain ⟨o, e1, e2, e3⟩ := hit
  refine h h₂ o (F.change hs zI.2.1 zI.2.2) (fun q hq => ?_) ⟨e2, e3⟩
  rcases List.mem_cons.mp hq with rfl | hq
  · exact ⟨e1, zI.2⟩
  · exact ⟨(hs.2 _ (hne q hq)).trans (N q (.tail _ hq)).1, (N q (.tail _ hq)).2⟩
theorem sx_done {I l : Addr} {oI : Obj} {k : Nat} {its : Array Value} {x : Str} {px : Pos} {body : List Stmt} (hh : (A.over (.forLoop (.Name x px) (.ref I) body [] env) fs).handled = none) (F : Fr h₀ env.locals s.heap m) (N : News h₀ env.locals s.heap ((I, oI) :: (l, W.listOf its k) :: rest)) (hoI : ItObj oI l its.size) (hne : ∀ q ∈ ((l, W.listOf its k) :: rest), q.1 ≠ I)
    (h : ∀ h₂, Fr h₀ env.locals h₂ m → News h₀ env.locals h₂ ((l, W.listOf its k) :: rest) →
      SegX (model prog w) A (.block [] env) (.pure (.done .next)) fs { s with heap := h₂ } P) :
    SegX (model prog w) A (.forLoop (.Name x px) (.ref I) body [] env) ((model prog w).den (.forLoop (.Name x px) (.ref I) body [] env)) fs s P := by
  have zI := N (I, oI) (.head _)
  refine sx_forLoop (wpAny_pyNext_list_end hh ⟨_, zI.1, hoI.1, hoI.2⟩ ⟨_, (N _ (.tail _ (.head _))).1, rfl, _, rfl⟩ (by simp) fun h₂ he => ?_)
  refine sx_block_nil (h h₂ ⟨F.ns.extBut he zI.2.1.symm, fun b o e => he b o (fun q => by rw [q, zI.2.2] at e; cases e) (F.keep b o e), F.above⟩ fun q hq => ⟨he _ _ (hne q hq) (N q (.tail _ hq)).1, (N q (.tail _ hq)).2⟩)
theorem gmoved_trans {own own' own'' : List (Addr × Obj)} {s₀ s₁ s₂ : Shared} (x : GMoved own own' s₀ s₁) (y : GMoved own' own'' s₁ s₂) : GMoved own own'' s₀ s₂ := by
  obtain ⟨h1, t1, rfl, k1, l1, f1⟩ := x
  obtain ⟨h2, t2, rfl, k2, l2, f2⟩ := y
  have off : ∀ (b : Nat) (o : Obj), b ∉ own.map (·.1) → s₀.heap.get? b = some o → b ∉ own'.map (·.1) := fun b o hb e hm => by
    obtain ⟨q, hq, e'⟩ := List.mem_map.mp hm
    have e'' : q.1 = b := e'
    rcases f1 q hq with h | h
    · exact hb (e'' ▸ h)
    · rw [e'', e] at h; cases h
  refine ⟨h2, t2, rfl, fun b o hb e => k2 b o (off b o hb e) (k1 b o hb e), l2, fun q hq => ?_⟩
  rcases f2 q hq with h | h
  · obtain ⟨r, hr, e⟩ := List.mem_map.mp h
    have e'' : r.1 = q.1 := e
    rw [← e'']
    exact f1 r hr
  · cases e : s₀.heap.get? q.1 with
    | none => exact .inr rfl
    | some o =>
      by_cases hm : q.1 ∈ own.map (·.1)
      · exact .inl hm
      · have := k1 q.1 o hm e
        have h' : h1.get? q.1 = none := h
        rw [this] at h'; cases h'
theorem gend_trans {inf : Bool} {sz : Int} {fin : Result → Heap → Prop} {next : List (Addr × Obj) → GenState → Prop} {n : Nat} {own own' : List (Addr × Obj)} {s₀ s₁ s₂ : Shared} {e : End} (x : GMoved own own' s₀ s₁) (y : GEnd inf sz fin next n own' s₁ e s₂) : GEnd inf sz fin next n own s₀ e s₂ := by
  cases e with
  | ret r => exact ⟨y.1, y.2.1, gmoved_trans x y.2.2.1, y.2.2.2⟩
  | susp v g l k c p fs =>
    obtain ⟨h1, h2, own'', h3, h4⟩ := y
    exact ⟨h1, h2, own'', gmoved_trans x h3, h4⟩
theorem gmoved_rfl {own : List (Addr × Obj)} {s₀ : Shared} {tk : Nat} (h : ∀ q ∈ own, s₀.heap.get? q.1 = some q.2) : GMoved own own s₀ { s₀ with toks := tk } :=
  ⟨s₀.heap, tk, rfl, fun _ _ _ e => e, h, fun q hq => .inl (List.mem_map_of_mem hq)⟩
theorem gmoved_nil {own own' : List (Addr × Obj)} {s₀ s₁ : Shared} (x : GMoved own own' s₀ s₁) : GMoved own [] s₀ s₁ := by
  obtain ⟨h1, t1, e, k1, l1, f1⟩ := x
  exact ⟨h1, t1, e, k1, fun q hq => (by cases hq), fun q hq => (by cases hq)⟩
/-- while True: yield x -/
theorem sx_forever {x : Str} {p0 p1 p2 p3 : Pos} {k0 : Nat} {sz : Int} {t : Tok} {fin : Result → Heap → Prop} {oC : Obj} {own : List (Addr × Obj)} {mC : Str → Option Value} (hoC : LCg.NsObj oC mC) (hx : mC x = some (.int sz t)) (hk : env.kindOf x = some .local) (hkind : env.scope.kind = .function) (hco : env.scope.isCoroutine = false) (hi : interactive env = false)
    (htrue : ∀ (A' : Around) (s : Shared) (Q : Bool → Shared → Prop), (∀ tk, Q true { s with toks := tk }) → wpAny (model prog w) A' (isTrue (.Constant (.bool true) k0 p0) env (eval (.Constant (.bool true) k0 p0) env)) Q No s) (hd : (x == ("__debug__" : Str)) = false) (hfs : splitAtGen fs = none) (hfg : fs.any Frame.guarded = false) : ∀ (n : Nat) (s : Shared), Lives h₀ ((env.locals, oC) :: own) s.heap →
    SegX (model prog w) A (.whileLoop (.Constant (.bool true) k0 p0) [.Expr (.Yield (some (.Name x p1)) p2) p3] [] env) ((model prog w).den (.whileLoop (.Constant (.bool true) k0 p0) [.Expr (.Yield (some (.Name x p1)) p2) p3] [] env)) fs s
      (GEnd true sz fin (GR prog w A h₀ true sz fin n) n ((env.locals, oC) :: own) s) := by
  have step : ∀ (n : Nat) (s s₀ : Shared), Lives h₀ ((env.locals, oC) :: own) s.heap → GMoved ((env.locals, oC) :: own) ((env.locals, oC) :: own) s₀ s →
      (∀ s₂ : Shared, Lives h₀ ((env.locals, oC) :: own) s₂.heap → 1 ≤ n → SegX (model prog w) A (.whileLoop (.Constant (.bool true) k0 p0) [.Expr (.Yield (some (.Name x p1)) p2) p3] [] env) ((model prog w).den (.whileLoop (.Constant (.bool true) k0 p0) [.Expr (.Yield (some (.Name x p1)) p2) p3] [] env)) fs s₂
        (GEnd true sz fin (GR prog w A h₀ true sz fin (n - 1)) (n - 1) ((env.locals, oC) :: own) s₂)) →
      SegX (model prog w) A (.whileLoop (.Constant (.bool true) k0 p0) [.Expr (.Yield (some (.Name x p1)) p2) p3] [] env) ((model prog w).den (.whileLoop (.Constant (.bool true) k0 p0) [.Expr (.Yield (some (.Name x p1)) p2) p3] [] env)) fs s
        (GEnd true sz fin (GR prog w A h₀ true sz fin n) n ((env.locals, oC) :: own) s₀) := by
    intro n s s₀ hlv mv next
    refine sx_whileTrue (htrue _ _ _ fun tk => ⟨rfl, ?_⟩)
    refine sx_execs_cons (sx_Expr_Yield hfs rfl hfg ?_ hco hi)
    refine wpAny_Name (wpAny_loadName_local hkind hk (hoC.ns (hlv.2 _ (.head _))) hx ?_) hd
    intro kk ll pp hkk
    refine ⟨⟨t, rfl⟩, fun _ => rfl, _, gmoved_trans mv (gmoved_rfl (tk := tk) hlv.2), ?_⟩
    cases n with
    | zero => exact trivial
    | succ n =>
      intro s₂ hlv₂
      refine ⟨_, _, _, .inr ⟨_, _, _, _, rfl, rfl⟩, hkk _ _ ?_⟩
      exact sx_again rfl (next s₂ hlv₂ (by omega))
  intro n
  induction n with
  | zero => exact fun s hlv => step 0 s s hlv (gmoved_rfl (tk := s.toks) hlv.2) fun s₂ _ h => absurd h (by decide)
  | succ n ih => exact fun s hlv => step (n + 1) s s hlv (gmoved_rfl (tk := s.toks) hlv.2) fun s₂ hlv₂ _ => ih s₂ hlv₂
end
end Mine
end

section
open PySem PySem.W PyProof.Rows PySem.Calls
/-- the walker's notes of the text before are put away -/
theorem Mine.freshC13 {prog : Program} {w : World} {A : Around} {env : Env} {Q : Flow → Shared → Prop} {E : Value → Shared → Prop} {s : Shared} (h : Q .next s) : wpAny (model prog w) A (execs [] env) Q E s := by
  w_on
  w_top off
  k_with_none
  walk1
  exact h
end
section
open PySem PySem.W PySem.W.X PyProof.Rows PySem.Calls
set_option maxRecDepth 100000
set_option maxHeartbeats 8000000
set_option linter.all false
namespace Mine
variable {w : World} {p : Program} {loose : List Str} {mean : ExcName → Option Value} {mg mb : Str → Option Value}
  {dp un : Nat} {gd : Option (List Code)} {cn : Str} {cs : Scope} {a : Addr} {ccd : Value} {cl : List (Str × Addr)} {outer : List Env} {A₀ : Around} {base h₀ : Heap} {L : Addr} {m : Str → Option Value} {news : List (Addr × Obj)} {s : Shared} {Q E : Value → Shared → Prop}
theorem toldC13_1 : True := by
  k_with "k_mem" => (refine List.mem_cons_of_mem _ ?_; k_mem)
  trivial
theorem toldC13_2 : True := by
  k_with "ktr_units" => (have hcL9 := cLine_is; ((try simp only [units_under_make, units_in1, units_deeper, Around.mark_units, units_caller] at *); (try dsimp only [ktrTop] at *); omega))
  trivial

theorem toldC13_3 : True := by
  k_with "cell_enter" => (refine' call_gen ?k2 ?kK ?k4 ?k5 ?k6 ?k7 ?k8 ?k9 ?kB ?_ ?c1 ?c2 ?c3 ?c5; (case kK => assumption); (case k2 => k_asm); (case k4 => k_asm); (case k5 => k_asm); (case k6 => k_is); (case k7 => k_is); (case k8 => ktr_room); (case k9 => first | exact BindsTo.of_eq rfl | exact binds_K (by k_in) rfl (by k_is) rfl rfl rfl); (case kB => exact locs rfl); (case c1 => exact rfl); (case c2 => exact rfl); (case c3 => exact rfl); (case c5 => decide); k_whole)
  trivial
theorem tGroup0 {l : Addr} {its : List Value} {k f sz n : Nat} (B : Below A₀ base outer h₀) (F : Fr h₀ L s.heap m) (X : (Mine.hd.heap_39 w.params).In h₀) (N : News h₀ L s.heap news) (T : Top p loose mean mg mb h₀) (hk : cs.kind = .function)
  (hd : dp + 1 < recursionLimit) (hu : un + 8 < cLine) (hl : (l, W.listOf its.toArray k) ∈ news) (hi : IntsAre its (rulerOf f sz)) (hf : f = 0) (hz2 : 2 ≤ sz) (hz6 : sz ≤ 6)
  (hret : ∀ G oG C oC gs h' tk', Fr h₀ L h' m → News h₀ L h' ((G, oG) :: (C, oC) :: news) → @LT.lt Nat _ C G → (∀ q ∈ news, @LT.lt Nat _ q.1 C) → gs.bare = true →
    GenIs PySem.Challenge.rw_st0018_01.row.prog w (ktrTop dp un gd cn cs L a ccd cl outer) h₀ true sz (fun r _ => r = .ok (.ret .none)) G oG s.gens.size n [(C, oC), (l, W.listOf its.toArray k)] gs →
    Q (.ref G) { s with heap := h', toks := tk', gens := s.gens.push gs }) :
  wpAny (model PySem.Challenge.rw_st0018_01.row.prog w) (ktrTop dp un gd cn cs L a ccd cl outer) (call (.ref 69) [.ref l]) Q E s := by
  revert X
  k_fill
  intro X
  refine wpAny_call ?_
  k_dflt cell_enter
  intro C G oC oG h' tk' F' N' hCG hnC hoC hle hoG
  try dsimp only
  try k_fold
  refine hret G oG C oC _ _ _ F' N' hCG hnC rfl ⟨hoG, ?_, ?_⟩
  · intro p hp
    rcases List.mem_cons.mp hp with rfl | hp
    · exact neN (by show @Ne Nat C G; omega)
    · rw [List.mem_singleton.mp hp]
      have := hnC _ hl
      exact neN (by show @Ne Nat l G; omega)
  have hn0 : h₀.get? l = none := (N _ hl).2.2
  have hlC : l ≠ C := neN (by have := hnC _ hl; show @Ne Nat l C; omega)
  subst hf
  obtain ⟨t0, t1, rfl⟩ : ∃ t0 t1 : Tok, its = [Value.int (sz : Int) t0, Value.int (0 : Int) t1] := by
    have hi9 : IntsAre its [(sz : Int), (0 : Int)] := hi
    cases hi9 with
    | cons n t0 h =>
      cases h with
      | cons n t1 h =>
        cases h; exact ⟨t0, t1, rfl⟩
  clear F' N'
  cases n with
  | zero => exact trivial
  | succ n =>
  intro s0 hlv0
  refine ⟨_, _, _, .inl ⟨rfl, rfl, rfl⟩, ?_⟩
  obtain ⟨oth0, O0, F0, N0⟩ := gstart hlv0 hoC hle (by intro q hq; rw [List.mem_singleton.mp hq]; exact ⟨hlC, hn0⟩)
  rw [List.cons_append, List.nil_append] at N0
  refine sx_func ?_
  refine sx_execs_cons (sx_simple ?_)
  k_steps
  refine sx_execs_cons (sx_For_list (h₀ := h₀) (l := l) (its := [Value.int (sz : Int) t0, Value.int (0 : Int) t1].toArray) (k := k) ?_)
  k_steps
  unfold Halt
  with_reducible (rename Fr _ _ _ _ => F1)
  with_reducible (rename News _ _ _ _ => N1)
  refine ⟨rfl, _, _, F1, N1, ?_⟩
  intro I oI h₂ p0 eI hoI F2 N2 hlt
  have hIg := fresh_gone (own := [(l, _)]) hlv0 O0 F1 N1 eI
  have hIl : I ≠ l := neN (by have := hlt _ (.head _); show @Ne Nat I l; omega)
  have hIC : I ≠ C := (N2 _ (.head _)).2.1
  have hI0 : h₀.get? I = none := (N2 _ (.head _)).2.2
  have hne0 : ∀ q ∈ ((l, W.listOf [Value.int (sz : Int) t0, Value.int (0 : Int) t1].toArray k) :: oth0), q.1 ≠ I := fun q hq => neN (by have := hlt q hq; omega)
  try clear F0
  try clear N0
  try clear F1
  try clear N1
  refine sx_item (v := .int (sz : Int) t0) F2 N2 hoI rfl hne0 ?_
  intro hh3 oI3 F3 N3 hoI3
  try clear F2
  try clear N2
  k_steps
  refine sx_execs_cons (sx_If ?_)
  k_steps
  rw [if_neg (show ¬ (((sz : Int) == 127) = true) by simp; omega)]
  refine sx_execs_nil ?_
  dsimp only
  refine sx_execs_cons (sx_If ?_)
  k_steps
  rw [if_neg (show ¬ (((sz : Int) == 0) = true) by simp; omega)]
  refine sx_execs_nil ?_
  dsimp only
  refine sx_execs_cons (sx_Expr_Yield rfl rfl rfl ?_)
  k_steps
  unfold Halt
  intro kk3 ll3 pp3 hk3
  refine ⟨⟨_, rfl⟩, fun _ => rfl, ?_⟩
  with_reducible (rename Fr _ _ _ _ => Fy3)
  with_reducible (rename News _ _ _ _ => Ny3)
  obtain ⟨oC3, hoC3, _, mv3⟩ := gend (own' := [(I, oI3), (l, _)]) hlv0 O0 Fy3 Ny3 (by intro q hq; rcases List.mem_cons.mp hq with rfl | hq; exact .inr hIg; rw [List.mem_singleton.mp hq]; exact .inl (by simp))
  refine ⟨(C, oC3) :: [(I, oI3), (l, W.listOf [Value.int (sz : Int) t0, Value.int (0 : Int) t1].toArray k)], mv3 _, ?_⟩
  cases n with
  | zero => exact trivial
  | succ n =>
  try clear Fy3
  try clear Ny3
  intro s1 hlv1
  refine ⟨_, _, _, .inr ⟨_, _, _, _, rfl, rfl⟩, hk3 _ _ ?_⟩
  obtain ⟨oth1, O1, F4, N4⟩ := gstart hlv1 hoC3 hle (by intro q hq; rcases List.mem_cons.mp hq with rfl | hq; exact ⟨hIC, hI0⟩; rw [List.mem_singleton.mp hq]; exact ⟨hlC, hn0⟩)
  rw [List.cons_append, List.cons_append, List.nil_append] at N4
  have hne1 : ∀ q ∈ ((l, W.listOf [Value.int (sz : Int) t0, Value.int (0 : Int) t1].toArray k) :: oth1), q.1 ≠ I := fun q hq => by
    rcases List.mem_cons.mp hq with rfl | hq
    · exact hIl.symm
    · exact fun e => (O1.sound q hq).2.1 (by simp [e])
  dsimp only
  refine sx_execs_cons (sx_simple ?_)
  k_steps
  refine sx_execs_nil ?_
  refine sx_again rfl ?_
  with_reducible (rename Fr _ _ _ _ => Fz4)
  with_reducible (rename News _ _ _ _ => Nz4)
  refine sx_item (v := .int (0 : Int) t1) Fz4 Nz4 hoI3 rfl hne1 ?_
  intro hh5 oI5 F5 N5 hoI5
  try clear Fz4
  try clear Nz4
  k_steps
  refine sx_execs_cons (sx_If ?_)
  k_steps
  rw [if_neg (show ¬ (((0 : Int) == 127) = true) by simp)]
  refine sx_execs_nil ?_
  dsimp only
  refine sx_execs_cons (sx_If ?_)
  k_steps
  rw [if_pos (show (((0 : Int) == 0) = true) by decide)]
  refine sx_execs_cons (sx_If ?_)
  k_steps
  rw [if_neg Bool.false_ne_true]
  refine sx_execs_nil ?_
  dsimp only
  refine sx_execs_cons (sx_While fun p9 => ?_)
  with_reducible (rename Fr _ _ _ _ => Fe)
  with_reducible (rename News _ _ _ _ => Ne)
  obtain ⟨oCe, hoCe, eCe, mve⟩ := gend (own' := [(I, oI5), (l, W.listOf [Value.int (sz : Int) t0, Value.int (0 : Int) t1].toArray k)]) hlv1 O1 Fe Ne (by intro q hq; rcases List.mem_cons.mp hq with rfl | hq; exact .inl (by simp); rw [List.mem_singleton.mp hq]; exact .inl (by simp))
  refine (sx_forever (h₀ := h₀) (x := Str.ofString "last_interval") (sz := sz) (t := t0) (own := [(I, oI5), (l, W.listOf [Value.int (sz : Int) t0, Value.int (0 : Int) t1].toArray k)]) hoCe rfl rfl rfl rfl rfl ?htrue (by decide) rfl rfl n _ ?hlives).mono (fun e s' h => gend_trans (mve _) h)
  case htrue =>
    intro A' s Q' h'
    refine wpAny_isTrue_value (wpAny_Constant_bool ?_)
    exact wpAny_truthy_bool (h' s.toks)
  case hlives =>
    refine ⟨Fe.keep, fun q hq => ?_⟩
    rcases List.mem_cons.mp hq with rfl | hq
    · exact eCe
    · exact (Ne q (List.mem_append_left _ hq)).1

theorem tGroup1 {l : Addr} {its : List Value} {k f sz : Nat} (B : Below A₀ base outer h₀) (F : Fr h₀ L s.heap m) (X : (Mine.hd.heap_39 w.params).In h₀) (N : News h₀ L s.heap news) (T : Top p loose mean mg mb h₀) (hk : cs.kind = .function)
  (hd : dp + 1 < recursionLimit) (hu : un + 8 < cLine) (hl : (l, W.listOf its.toArray k) ∈ news) (hi : IntsAre its (rulerOf f sz)) (hf : f = 1) (hz2 : 2 ≤ sz) (hz6 : sz ≤ 6)
  (hret : ∀ G oG C oC gs h' tk', Fr h₀ L h' m → News h₀ L h' ((G, oG) :: (C, oC) :: news) → @LT.lt Nat _ C G → (∀ q ∈ news, @LT.lt Nat _ q.1 C) → gs.bare = true →
    GenIs PySem.Challenge.rw_st0018_01.row.prog w (ktrTop dp un gd cn cs L a ccd cl outer) h₀ false sz (fun r _ => r = .ok (.ret .none)) G oG s.gens.size 2 [(C, oC), (l, W.listOf its.toArray k)] gs →
    Q (.ref G) { s with heap := h', toks := tk', gens := s.gens.push gs }) :
  wpAny (model PySem.Challenge.rw_st0018_01.row.prog w) (ktrTop dp un gd cn cs L a ccd cl outer) (call (.ref 69) [.ref l]) Q E s := by
  revert X
  k_fill
  intro X
  refine wpAny_call ?_
  k_dflt cell_enter
  intro C G oC oG h' tk' F' N' hCG hnC hoC hle hoG
  try dsimp only
  try k_fold
  refine hret G oG C oC _ _ _ F' N' hCG hnC rfl ⟨hoG, ?_, ?_⟩
  · intro p hp
    rcases List.mem_cons.mp hp with rfl | hp
    · exact neN (by show @Ne Nat C G; omega)
    · rw [List.mem_singleton.mp hp]
      have := hnC _ hl
      exact neN (by show @Ne Nat l G; omega)
  have hn0 : h₀.get? l = none := (N _ hl).2.2
  have hlC : l ≠ C := neN (by have := hnC _ hl; show @Ne Nat l C; omega)
  subst hf
  obtain ⟨t0, rfl⟩ : ∃ t0 : Tok, its = [Value.int (sz : Int) t0] := by
    have hi9 : IntsAre its [(sz : Int)] := hi
    cases hi9 with
    | cons n t0 h =>
      cases h; exact ⟨t0, rfl⟩
  clear F' N'
  intro s0 hlv0
  refine ⟨_, _, _, .inl ⟨rfl, rfl, rfl⟩, ?_⟩
  obtain ⟨oth0, O0, F0, N0⟩ := gstart hlv0 hoC hle (by intro q hq; rw [List.mem_singleton.mp hq]; exact ⟨hlC, hn0⟩)
  rw [List.cons_append, List.nil_append] at N0
  refine sx_func ?_
  refine sx_execs_cons (sx_simple ?_)
  k_steps
  refine sx_execs_cons (sx_For_list (h₀ := h₀) (l := l) (its := [Value.int (sz : Int) t0].toArray) (k := k) ?_)
  k_steps
  unfold Halt
  with_reducible (rename Fr _ _ _ _ => F1)
  with_reducible (rename News _ _ _ _ => N1)
  refine ⟨rfl, _, _, F1, N1, ?_⟩
  intro I oI h₂ p0 eI hoI F2 N2 hlt
  have hIg := fresh_gone (own := [(l, _)]) hlv0 O0 F1 N1 eI
  have hIl : I ≠ l := neN (by have := hlt _ (.head _); show @Ne Nat I l; omega)
  have hIC : I ≠ C := (N2 _ (.head _)).2.1
  have hI0 : h₀.get? I = none := (N2 _ (.head _)).2.2
  have hne0 : ∀ q ∈ ((l, W.listOf [Value.int (sz : Int) t0].toArray k) :: oth0), q.1 ≠ I := fun q hq => neN (by have := hlt q hq; omega)
  try clear F0
  try clear N0
  try clear F1
  try clear N1
  refine sx_item (v := .int (sz : Int) t0) F2 N2 hoI rfl hne0 ?_
  intro hh3 oI3 F3 N3 hoI3
  try clear F2
  try clear N2
  k_steps
  refine sx_execs_cons (sx_If ?_)
  k_steps
  rw [if_neg (show ¬ (((sz : Int) == 127) = true) by simp; omega)]
  refine sx_execs_nil ?_
  dsimp only
  refine sx_execs_cons (sx_If ?_)
  k_steps
  rw [if_neg (show ¬ (((sz : Int) == 0) = true) by simp; omega)]
  refine sx_execs_nil ?_
  dsimp only
  refine sx_execs_cons (sx_Expr_Yield rfl rfl rfl ?_)
  k_steps
  unfold Halt
  intro kk3 ll3 pp3 hk3
  refine ⟨⟨_, rfl⟩, fun h => absurd h (by decide), ?_⟩
  with_reducible (rename Fr _ _ _ _ => Fy3)
  with_reducible (rename News _ _ _ _ => Ny3)
  obtain ⟨oC3, hoC3, _, mv3⟩ := gend (own' := [(I, oI3), (l, _)]) hlv0 O0 Fy3 Ny3 (by intro q hq; rcases List.mem_cons.mp hq with rfl | hq; exact .inr hIg; rw [List.mem_singleton.mp hq]; exact .inl (by simp))
  refine ⟨(C, oC3) :: [(I, oI3), (l, W.listOf [Value.int (sz : Int) t0].toArray k)], mv3 _, ?_⟩
  try clear Fy3
  try clear Ny3
  intro s1 hlv1
  refine ⟨_, _, _, .inr ⟨_, _, _, _, rfl, rfl⟩, hk3 _ _ ?_⟩
  obtain ⟨oth1, O1, F4, N4⟩ := gstart hlv1 hoC3 hle (by intro q hq; rcases List.mem_cons.mp hq with rfl | hq; exact ⟨hIC, hI0⟩; rw [List.mem_singleton.mp hq]; exact ⟨hlC, hn0⟩)
  rw [List.cons_append, List.cons_append, List.nil_append] at N4
  have hne1 : ∀ q ∈ ((l, W.listOf [Value.int (sz : Int) t0].toArray k) :: oth1), q.1 ≠ I := fun q hq => by
    rcases List.mem_cons.mp hq with rfl | hq
    · exact hIl.symm
    · exact fun e => (O1.sound q hq).2.1 (by simp [e])
  dsimp only
  refine sx_execs_cons (sx_simple ?_)
  k_steps
  refine sx_execs_nil ?_
  refine sx_again rfl ?_
  with_reducible (rename Fr _ _ _ _ => Fz4)
  with_reducible (rename News _ _ _ _ => Nz4)
  refine sx_done rfl Fz4 Nz4 hoI3 hne1 ?_
  intro hh5 F5 N5
  refine sx_back (f := .next) rfl ?_
  refine sx_execs_nil ?_
  refine sx_end (r := .ok (.ret .none)) rfl ?_
  obtain ⟨oCe, _, _, mve⟩ := gend (own' := [(l, _)]) hlv1 O1 F5 N5 (by intro q hq; rw [List.mem_singleton.mp hq]; exact .inl (by simp))
  exact ⟨rfl, rfl, gmoved_nil (mve _), rfl⟩

theorem tGroup2 {l : Addr} {its : List Value} {k f sz : Nat} (B : Below A₀ base outer h₀) (F : Fr h₀ L s.heap m) (X : (Mine.hd.heap_39 w.params).In h₀) (N : News h₀ L s.heap news) (T : Top p loose mean mg mb h₀) (hk : cs.kind = .function)
  (hd : dp + 1 < recursionLimit) (hu : un + 8 < cLine) (hl : (l, W.listOf its.toArray k) ∈ news) (hi : IntsAre its (rulerOf f sz)) (hf : f = 2) (hz2 : 2 ≤ sz) (hz6 : sz ≤ 6)
  (hret : ∀ G oG C oC gs h' tk', Fr h₀ L h' m → News h₀ L h' ((G, oG) :: (C, oC) :: news) → @LT.lt Nat _ C G → (∀ q ∈ news, @LT.lt Nat _ q.1 C) → gs.bare = true →
    GenIs PySem.Challenge.rw_st0018_01.row.prog w (ktrTop dp un gd cn cs L a ccd cl outer) h₀ false sz (fun r _ => r = .ok (.ret .none)) G oG s.gens.size 2 [(C, oC), (l, W.listOf its.toArray k)] gs →
    Q (.ref G) { s with heap := h', toks := tk', gens := s.gens.push gs }) :
  wpAny (model PySem.Challenge.rw_st0018_01.row.prog w) (ktrTop dp un gd cn cs L a ccd cl outer) (call (.ref 69) [.ref l]) Q E s := by
  revert X
  k_fill
  intro X
  refine wpAny_call ?_
  k_dflt cell_enter
  intro C G oC oG h' tk' F' N' hCG hnC hoC hle hoG
  try dsimp only
  try k_fold
  refine hret G oG C oC _ _ _ F' N' hCG hnC rfl ⟨hoG, ?_, ?_⟩
  · intro p hp
    rcases List.mem_cons.mp hp with rfl | hp
    · exact neN (by show @Ne Nat C G; omega)
    · rw [List.mem_singleton.mp hp]
      have := hnC _ hl
      exact neN (by show @Ne Nat l G; omega)
  have hn0 : h₀.get? l = none := (N _ hl).2.2
  have hlC : l ≠ C := neN (by have := hnC _ hl; show @Ne Nat l C; omega)
  subst hf
  obtain ⟨t0, t1, t2, rfl⟩ : ∃ t0 t1 t2 : Tok, its = [Value.int (sz : Int) t0, Value.int (127 : Int) t1, Value.int (1 : Int) t2] := by
    have hi9 : IntsAre its [(sz : Int), (127 : Int), (1 : Int)] := hi
    cases hi9 with
    | cons n t0 h =>
      cases h with
      | cons n t1 h =>
        cases h with
        | cons n t2 h =>
          cases h; exact ⟨t0, t1, t2, rfl⟩
  clear F' N'
  intro s0 hlv0
  refine ⟨_, _, _, .inl ⟨rfl, rfl, rfl⟩, ?_⟩
  obtain ⟨oth0, O0, F0, N0⟩ := gstart hlv0 hoC hle (by intro q hq; rw [List.mem_singleton.mp hq]; exact ⟨hlC, hn0⟩)
  rw [List.cons_append, List.nil_append] at N0
  refine sx_func ?_
  refine sx_execs_cons (sx_simple ?_)
  k_steps
  refine sx_execs_cons (sx_For_list (h₀ := h₀) (l := l) (its := [Value.int (sz : Int) t0, Value.int (127 : Int) t1, Value.int (1 : Int) t2].toArray) (k := k) ?_)
  k_steps
  unfold Halt
  with_reducible (rename Fr _ _ _ _ => F1)
  with_reducible (rename News _ _ _ _ => N1)
  refine ⟨rfl, _, _, F1, N1, ?_⟩
  intro I oI h₂ p0 eI hoI F2 N2 hlt
  have hIg := fresh_gone (own := [(l, _)]) hlv0 O0 F1 N1 eI
  have hIl : I ≠ l := neN (by have := hlt _ (.head _); show @Ne Nat I l; omega)
  have hIC : I ≠ C := (N2 _ (.head _)).2.1
  have hI0 : h₀.get? I = none := (N2 _ (.head _)).2.2
  have hne0 : ∀ q ∈ ((l, W.listOf [Value.int (sz : Int) t0, Value.int (127 : Int) t1, Value.int (1 : Int) t2].toArray k) :: oth0), q.1 ≠ I := fun q hq => neN (by have := hlt q hq; omega)
  try clear F0
  try clear N0
  try clear F1
  try clear N1
  refine sx_item (v := .int (sz : Int) t0) F2 N2 hoI rfl hne0 ?_
  intro hh3 oI3 F3 N3 hoI3
  try clear F2
  try clear N2
  k_steps
  refine sx_execs_cons (sx_If ?_)
  k_steps
  rw [if_neg (show ¬ (((sz : Int) == 127) = true) by simp; omega)]
  refine sx_execs_nil ?_
  dsimp only
  refine sx_execs_cons (sx_If ?_)
  k_steps
  rw [if_neg (show ¬ (((sz : Int) == 0) = true) by simp; omega)]
  refine sx_execs_nil ?_
  dsimp only
  refine sx_execs_cons (sx_Expr_Yield rfl rfl rfl ?_)
  k_steps
  unfold Halt
  intro kk3 ll3 pp3 hk3
  refine ⟨⟨_, rfl⟩, fun h => absurd h (by decide), ?_⟩
  with_reducible (rename Fr _ _ _ _ => Fy3)
  with_reducible (rename News _ _ _ _ => Ny3)
  obtain ⟨oC3, hoC3, _, mv3⟩ := gend (own' := [(I, oI3), (l, _)]) hlv0 O0 Fy3 Ny3 (by intro q hq; rcases List.mem_cons.mp hq with rfl | hq; exact .inr hIg; rw [List.mem_singleton.mp hq]; exact .inl (by simp))
  refine ⟨(C, oC3) :: [(I, oI3), (l, W.listOf [Value.int (sz : Int) t0, Value.int (127 : Int) t1, Value.int (1 : Int) t2].toArray k)], mv3 _, ?_⟩
  try clear Fy3
  try clear Ny3
  intro s1 hlv1
  refine ⟨_, _, _, .inr ⟨_, _, _, _, rfl, rfl⟩, hk3 _ _ ?_⟩
  obtain ⟨oth1, O1, F4, N4⟩ := gstart hlv1 hoC3 hle (by intro q hq; rcases List.mem_cons.mp hq with rfl | hq; exact ⟨hIC, hI0⟩; rw [List.mem_singleton.mp hq]; exact ⟨hlC, hn0⟩)
  rw [List.cons_append, List.cons_append, List.nil_append] at N4
  have hne1 : ∀ q ∈ ((l, W.listOf [Value.int (sz : Int) t0, Value.int (127 : Int) t1, Value.int (1 : Int) t2].toArray k) :: oth1), q.1 ≠ I := fun q hq => by
    rcases List.mem_cons.mp hq with rfl | hq
    · exact hIl.symm
    · exact fun e => (O1.sound q hq).2.1 (by simp [e])
  dsimp only
  refine sx_execs_cons (sx_simple ?_)
  k_steps
  refine sx_execs_nil ?_
  refine sx_again rfl ?_
  with_reducible (rename Fr _ _ _ _ => Fz4)
  with_reducible (rename News _ _ _ _ => Nz4)
  refine sx_item (v := .int (127 : Int) t1) Fz4 Nz4 hoI3 rfl hne1 ?_
  intro hh5 oI5 F5 N5 hoI5
  try clear Fz4
  try clear Nz4
  k_steps
  refine sx_execs_cons (sx_If ?_)
  k_steps
  rw [if_pos (show (((127 : Int) == 127) = true) by decide)]
  refine sx_execs_cons (sx_simple ?_)
  k_steps
  refine sx_back (f := .ret .none) rfl ?_
  refine sx_end (r := .ok (.ret .none)) rfl ?_
  with_reducible (rename Fr _ _ _ _ => Fe)
  with_reducible (rename News _ _ _ _ => Ne)
  obtain ⟨oCe, _, _, mve⟩ := gend (own' := [(I, oI5), (l, _)]) hlv1 O1 Fe Ne (by intro q hq; rcases List.mem_cons.mp hq with rfl | hq; exact .inl (by simp); rw [List.mem_singleton.mp hq]; exact .inl (by simp))
  exact ⟨rfl, rfl, gmoved_nil (mve _), rfl⟩

theorem tGroup3 {l : Addr} {its : List Value} {k f sz n : Nat} (B : Below A₀ base outer h₀) (F : Fr h₀ L s.heap m) (X : (Mine.hd.heap_39 w.params).In h₀) (N : News h₀ L s.heap news) (T : Top p loose mean mg mb h₀) (hk : cs.kind = .function)
  (hd : dp + 1 < recursionLimit) (hu : un + 8 < cLine) (hl : (l, W.listOf its.toArray k) ∈ news) (hi : IntsAre its (rulerOf f sz)) (hf : f = 3) (hz2 : 2 ≤ sz) (hz6 : sz ≤ 6)
  (hret : ∀ G oG C oC gs h' tk', Fr h₀ L h' m → News h₀ L h' ((G, oG) :: (C, oC) :: news) → @LT.lt Nat _ C G → (∀ q ∈ news, @LT.lt Nat _ q.1 C) → gs.bare = true →
    GenIs PySem.Challenge.rw_st0018_01.row.prog w (ktrTop dp un gd cn cs L a ccd cl outer) h₀ true sz (fun r _ => r = .ok (.ret .none)) G oG s.gens.size n [(C, oC), (l, W.listOf its.toArray k)] gs →
    Q (.ref G) { s with heap := h', toks := tk', gens := s.gens.push gs }) :
  wpAny (model PySem.Challenge.rw_st0018_01.row.prog w) (ktrTop dp un gd cn cs L a ccd cl outer) (call (.ref 69) [.ref l]) Q E s := by
  revert X
  k_fill
  intro X
  refine wpAny_call ?_
  k_dflt cell_enter
  intro C G oC oG h' tk' F' N' hCG hnC hoC hle hoG
  try dsimp only
  try k_fold
  refine hret G oG C oC _ _ _ F' N' hCG hnC rfl ⟨hoG, ?_, ?_⟩
  · intro p hp
    rcases List.mem_cons.mp hp with rfl | hp
    · exact neN (by show @Ne Nat C G; omega)
    · rw [List.mem_singleton.mp hp]
      have := hnC _ hl
      exact neN (by show @Ne Nat l G; omega)
  have hn0 : h₀.get? l = none := (N _ hl).2.2
  have hlC : l ≠ C := neN (by have := hnC _ hl; show @Ne Nat l C; omega)
  subst hf
  obtain ⟨t0, t1, t2, rfl⟩ : ∃ t0 t1 t2 : Tok, its = [Value.int (sz : Int) t0, Value.int (0 : Int) t1, Value.int (1 : Int) t2] := by
    have hi9 : IntsAre its [(sz : Int), (0 : Int), (1 : Int)] := hi
    cases hi9 with
    | cons n t0 h =>
      cases h with
      | cons n t1 h =>
        cases h with
        | cons n t2 h =>
          cases h; exact ⟨t0, t1, t2, rfl⟩
  clear F' N'
  cases n with
  | zero => exact trivial
  | succ n =>
  intro s0 hlv0
  refine ⟨_, _, _, .inl ⟨rfl, rfl, rfl⟩, ?_⟩
  obtain ⟨oth0, O0, F0, N0⟩ := gstart hlv0 hoC hle (by intro q hq; rw [List.mem_singleton.mp hq]; exact ⟨hlC, hn0⟩)
  rw [List.cons_append, List.nil_append] at N0
  refine sx_func ?_
  refine sx_execs_cons (sx_simple ?_)
  k_steps
  refine sx_execs_cons (sx_For_list (h₀ := h₀) (l := l) (its := [Value.int (sz : Int) t0, Value.int (0 : Int) t1, Value.int (1 : Int) t2].toArray) (k := k) ?_)
  k_steps
  unfold Halt
  with_reducible (rename Fr _ _ _ _ => F1)
  with_reducible (rename News _ _ _ _ => N1)
  refine ⟨rfl, _, _, F1, N1, ?_⟩
  intro I oI h₂ p0 eI hoI F2 N2 hlt
  have hIg := fresh_gone (own := [(l, _)]) hlv0 O0 F1 N1 eI
  have hIl : I ≠ l := neN (by have := hlt _ (.head _); show @Ne Nat I l; omega)
  have hIC : I ≠ C := (N2 _ (.head _)).2.1
  have hI0 : h₀.get? I = none := (N2 _ (.head _)).2.2
  have hne0 : ∀ q ∈ ((l, W.listOf [Value.int (sz : Int) t0, Value.int (0 : Int) t1, Value.int (1 : Int) t2].toArray k) :: oth0), q.1 ≠ I := fun q hq => neN (by have := hlt q hq; omega)
  try clear F0
  try clear N0
  try clear F1
  try clear N1
  refine sx_item (v := .int (sz : Int) t0) F2 N2 hoI rfl hne0 ?_
  intro hh3 oI3 F3 N3 hoI3
  try clear F2
  try clear N2
  k_steps
  refine sx_execs_cons (sx_If ?_)
  k_steps
  rw [if_neg (show ¬ (((sz : Int) == 127) = true) by simp; omega)]
  refine sx_execs_nil ?_
  dsimp only
  refine sx_execs_cons (sx_If ?_)
  k_steps
  rw [if_neg (show ¬ (((sz : Int) == 0) = true) by simp; omega)]
  refine sx_execs_nil ?_
  dsimp only
  refine sx_execs_cons (sx_Expr_Yield rfl rfl rfl ?_)
  k_steps
  unfold Halt
  intro kk3 ll3 pp3 hk3
  refine ⟨⟨_, rfl⟩, fun _ => rfl, ?_⟩
  with_reducible (rename Fr _ _ _ _ => Fy3)
  with_reducible (rename News _ _ _ _ => Ny3)
  obtain ⟨oC3, hoC3, _, mv3⟩ := gend (own' := [(I, oI3), (l, _)]) hlv0 O0 Fy3 Ny3 (by intro q hq; rcases List.mem_cons.mp hq with rfl | hq; exact .inr hIg; rw [List.mem_singleton.mp hq]; exact .inl (by simp))
  refine ⟨(C, oC3) :: [(I, oI3), (l, W.listOf [Value.int (sz : Int) t0, Value.int (0 : Int) t1, Value.int (1 : Int) t2].toArray k)], mv3 _, ?_⟩
  cases n with
  | zero => exact trivial
  | succ n =>
  try clear Fy3
  try clear Ny3
  intro s1 hlv1
  refine ⟨_, _, _, .inr ⟨_, _, _, _, rfl, rfl⟩, hk3 _ _ ?_⟩
  obtain ⟨oth1, O1, F4, N4⟩ := gstart hlv1 hoC3 hle (by intro q hq; rcases List.mem_cons.mp hq with rfl | hq; exact ⟨hIC, hI0⟩; rw [List.mem_singleton.mp hq]; exact ⟨hlC, hn0⟩)
  rw [List.cons_append, List.cons_append, List.nil_append] at N4
  have hne1 : ∀ q ∈ ((l, W.listOf [Value.int (sz : Int) t0, Value.int (0 : Int) t1, Value.int (1 : Int) t2].toArray k) :: oth1), q.1 ≠ I := fun q hq => by
    rcases List.mem_cons.mp hq with rfl | hq
    · exact hIl.symm
    · exact fun e => (O1.sound q hq).2.1 (by simp [e])
  dsimp only
  refine sx_execs_cons (sx_simple ?_)
  k_steps
  refine sx_execs_nil ?_
  refine sx_again rfl ?_
  with_reducible (rename Fr _ _ _ _ => Fz4)
  with_reducible (rename News _ _ _ _ => Nz4)
  refine sx_item (v := .int (0 : Int) t1) Fz4 Nz4 hoI3 rfl hne1 ?_
  intro hh5 oI5 F5 N5 hoI5
  try clear Fz4
  try clear Nz4
  k_steps
  refine sx_execs_cons (sx_If ?_)
  k_steps
  rw [if_neg (show ¬ (((0 : Int) == 127) = true) by simp)]
  refine sx_execs_nil ?_
  dsimp only
  refine sx_execs_cons (sx_If ?_)
  k_steps
  rw [if_pos (show (((0 : Int) == 0) = true) by decide)]
  refine sx_execs_cons (sx_If ?_)
  k_steps
  rw [if_neg Bool.false_ne_true]
  refine sx_execs_nil ?_
  dsimp only
  refine sx_execs_cons (sx_While fun p9 => ?_)
  with_reducible (rename Fr _ _ _ _ => Fe)
  with_reducible (rename News _ _ _ _ => Ne)
  obtain ⟨oCe, hoCe, eCe, mve⟩ := gend (own' := [(I, oI5), (l, W.listOf [Value.int (sz : Int) t0, Value.int (0 : Int) t1, Value.int (1 : Int) t2].toArray k)]) hlv1 O1 Fe Ne (by intro q hq; rcases List.mem_cons.mp hq with rfl | hq; exact .inl (by simp); rw [List.mem_singleton.mp hq]; exact .inl (by simp))
  refine (sx_forever (h₀ := h₀) (x := Str.ofString "last_interval") (sz := sz) (t := t0) (own := [(I, oI5), (l, W.listOf [Value.int (sz : Int) t0, Value.int (0 : Int) t1, Value.int (1 : Int) t2].toArray k)]) hoCe rfl rfl rfl rfl rfl ?htrue (by decide) rfl rfl n _ ?hlives).mono (fun e s' h => gend_trans (mve _) h)
  case htrue =>
    intro A' s Q' h'
    refine wpAny_isTrue_value (wpAny_Constant_bool ?_)
    exact wpAny_truthy_bool (h' s.toks)
  case hlives =>
    refine ⟨Fe.keep, fun q hq => ?_⟩
    rcases List.mem_cons.mp hq with rfl | hq
    · exact eCe
    · exact (Ne q (List.mem_append_left _ hq)).1

theorem tGroup4 {l : Addr} {its : List Value} {k f sz : Nat} (B : Below A₀ base outer h₀) (F : Fr h₀ L s.heap m) (X : (Mine.hd.heap_39 w.params).In h₀) (N : News h₀ L s.heap news) (T : Top p loose mean mg mb h₀) (hk : cs.kind = .function)
  (hd : dp + 1 < recursionLimit) (hu : un + 8 < cLine) (hl : (l, W.listOf its.toArray k) ∈ news) (hi : IntsAre its (rulerOf f sz)) (hf : f = 4) (hz2 : 2 ≤ sz) (hz6 : sz ≤ 6)
  (hret : ∀ G oG C oC gs h' tk', Fr h₀ L h' m → News h₀ L h' ((G, oG) :: (C, oC) :: news) → @LT.lt Nat _ C G → (∀ q ∈ news, @LT.lt Nat _ q.1 C) → gs.bare = true →
    GenIs PySem.Challenge.rw_st0018_01.row.prog w (ktrTop dp un gd cn cs L a ccd cl outer) h₀ false sz (fun r _ => r = .ok (.ret .none)) G oG s.gens.size 3 [(C, oC), (l, W.listOf its.toArray k)] gs →
    Q (.ref G) { s with heap := h', toks := tk', gens := s.gens.push gs }) :
  wpAny (model PySem.Challenge.rw_st0018_01.row.prog w) (ktrTop dp un gd cn cs L a ccd cl outer) (call (.ref 69) [.ref l]) Q E s := by
  revert X
  k_fill
  intro X
  refine wpAny_call ?_
  k_dflt cell_enter
  intro C G oC oG h' tk' F' N' hCG hnC hoC hle hoG
  try dsimp only
  try k_fold
  refine hret G oG C oC _ _ _ F' N' hCG hnC rfl ⟨hoG, ?_, ?_⟩
  · intro p hp
    rcases List.mem_cons.mp hp with rfl | hp
    · exact neN (by show @Ne Nat C G; omega)
    · rw [List.mem_singleton.mp hp]
      have := hnC _ hl
      exact neN (by show @Ne Nat l G; omega)
  have hn0 : h₀.get? l = none := (N _ hl).2.2
  have hlC : l ≠ C := neN (by have := hnC _ hl; show @Ne Nat l C; omega)
  subst hf
  obtain ⟨t0, t1, rfl⟩ : ∃ t0 t1 : Tok, its = [Value.int (sz : Int) t0, Value.int (sz : Int) t1] := by
    have hi9 : IntsAre its [(sz : Int), (sz : Int)] := hi
    cases hi9 with
    | cons n t0 h =>
      cases h with
      | cons n t1 h =>
        cases h; exact ⟨t0, t1, rfl⟩
  clear F' N'
  intro s0 hlv0
  refine ⟨_, _, _, .inl ⟨rfl, rfl, rfl⟩, ?_⟩
  obtain ⟨oth0, O0, F0, N0⟩ := gstart hlv0 hoC hle (by intro q hq; rw [List.mem_singleton.mp hq]; exact ⟨hlC, hn0⟩)
  rw [List.cons_append, List.nil_append] at N0
  refine sx_func ?_
  refine sx_execs_cons (sx_simple ?_)
  k_steps
  refine sx_execs_cons (sx_For_list (h₀ := h₀) (l := l) (its := [Value.int (sz : Int) t0, Value.int (sz : Int) t1].toArray) (k := k) ?_)
  k_steps
  unfold Halt
  with_reducible (rename Fr _ _ _ _ => F1)
  with_reducible (rename News _ _ _ _ => N1)
  refine ⟨rfl, _, _, F1, N1, ?_⟩
  intro I oI h₂ p0 eI hoI F2 N2 hlt
  have hIg := fresh_gone (own := [(l, _)]) hlv0 O0 F1 N1 eI
  have hIl : I ≠ l := neN (by have := hlt _ (.head _); show @Ne Nat I l; omega)
  have hIC : I ≠ C := (N2 _ (.head _)).2.1
  have hI0 : h₀.get? I = none := (N2 _ (.head _)).2.2
  have hne0 : ∀ q ∈ ((l, W.listOf [Value.int (sz : Int) t0, Value.int (sz : Int) t1].toArray k) :: oth0), q.1 ≠ I := fun q hq => neN (by have := hlt q hq; omega)
  try clear F0
  try clear N0
  try clear F1
  try clear N1
  refine sx_item (v := .int (sz : Int) t0) F2 N2 hoI rfl hne0 ?_
  intro hh3 oI3 F3 N3 hoI3
  try clear F2
  try clear N2
  k_steps
  refine sx_execs_cons (sx_If ?_)
  k_steps
  rw [if_neg (show ¬ (((sz : Int) == 127) = true) by simp; omega)]
  refine sx_execs_nil ?_
  dsimp only
  refine sx_execs_cons (sx_If ?_)
  k_steps
  rw [if_neg (show ¬ (((sz : Int) == 0) = true) by simp; omega)]
  refine sx_execs_nil ?_
  dsimp only
  refine sx_execs_cons (sx_Expr_Yield rfl rfl rfl ?_)
  k_steps
  unfold Halt
  intro kk3 ll3 pp3 hk3
  refine ⟨⟨_, rfl⟩, fun h => absurd h (by decide), ?_⟩
  with_reducible (rename Fr _ _ _ _ => Fy3)
  with_reducible (rename News _ _ _ _ => Ny3)
  obtain ⟨oC3, hoC3, _, mv3⟩ := gend (own' := [(I, oI3), (l, _)]) hlv0 O0 Fy3 Ny3 (by intro q hq; rcases List.mem_cons.mp hq with rfl | hq; exact .inr hIg; rw [List.mem_singleton.mp hq]; exact .inl (by simp))
  refine ⟨(C, oC3) :: [(I, oI3), (l, W.listOf [Value.int (sz : Int) t0, Value.int (sz : Int) t1].toArray k)], mv3 _, ?_⟩
  try clear Fy3
  try clear Ny3
  intro s1 hlv1
  refine ⟨_, _, _, .inr ⟨_, _, _, _, rfl, rfl⟩, hk3 _ _ ?_⟩
  obtain ⟨oth1, O1, F4, N4⟩ := gstart hlv1 hoC3 hle (by intro q hq; rcases List.mem_cons.mp hq with rfl | hq; exact ⟨hIC, hI0⟩; rw [List.mem_singleton.mp hq]; exact ⟨hlC, hn0⟩)
  rw [List.cons_append, List.cons_append, List.nil_append] at N4
  have hne1 : ∀ q ∈ ((l, W.listOf [Value.int (sz : Int) t0, Value.int (sz : Int) t1].toArray k) :: oth1), q.1 ≠ I := fun q hq => by
    rcases List.mem_cons.mp hq with rfl | hq
    · exact hIl.symm
    · exact fun e => (O1.sound q hq).2.1 (by simp [e])
  dsimp only
  refine sx_execs_cons (sx_simple ?_)
  k_steps
  refine sx_execs_nil ?_
  refine sx_again rfl ?_
  with_reducible (rename Fr _ _ _ _ => Fz4)
  with_reducible (rename News _ _ _ _ => Nz4)
  refine sx_item (v := .int (sz : Int) t1) Fz4 Nz4 hoI3 rfl hne1 ?_
  intro hh5 oI5 F5 N5 hoI5
  try clear Fz4
  try clear Nz4
  k_steps
  refine sx_execs_cons (sx_If ?_)
  k_steps
  rw [if_neg (show ¬ (((sz : Int) == 127) = true) by simp; omega)]
  refine sx_execs_nil ?_
  dsimp only
  refine sx_execs_cons (sx_If ?_)
  k_steps
  rw [if_neg (show ¬ (((sz : Int) == 0) = true) by simp; omega)]
  refine sx_execs_nil ?_
  dsimp only
  refine sx_execs_cons (sx_Expr_Yield rfl rfl rfl ?_)
  k_steps
  unfold Halt
  intro kk5 ll5 pp5 hk5
  refine ⟨⟨_, rfl⟩, fun h => absurd h (by decide), ?_⟩
  with_reducible (rename Fr _ _ _ _ => Fy5)
  with_reducible (rename News _ _ _ _ => Ny5)
  obtain ⟨oC5, hoC5, _, mv5⟩ := gend (own' := [(I, oI5), (l, _)]) hlv1 O1 Fy5 Ny5 (by intro q hq; rcases List.mem_cons.mp hq with rfl | hq; exact .inl (by simp); rw [List.mem_singleton.mp hq]; exact .inl (by simp))
  refine ⟨(C, oC5) :: [(I, oI5), (l, W.listOf [Value.int (sz : Int) t0, Value.int (sz : Int) t1].toArray k)], mv5 _, ?_⟩
  try clear Fy5
  try clear Ny5
  intro s2 hlv2
  refine ⟨_, _, _, .inr ⟨_, _, _, _, rfl, rfl⟩, hk5 _ _ ?_⟩
  obtain ⟨oth2, O2, F6, N6⟩ := gstart hlv2 hoC5 hle (by intro q hq; rcases List.mem_cons.mp hq with rfl | hq; exact ⟨hIC, hI0⟩; rw [List.mem_singleton.mp hq]; exact ⟨hlC, hn0⟩)
  rw [List.cons_append, List.cons_append, List.nil_append] at N6
  have hne2 : ∀ q ∈ ((l, W.listOf [Value.int (sz : Int) t0, Value.int (sz : Int) t1].toArray k) :: oth2), q.1 ≠ I := fun q hq => by
    rcases List.mem_cons.mp hq with rfl | hq
    · exact hIl.symm
    · exact fun e => (O2.sound q hq).2.1 (by simp [e])
  dsimp only
  refine sx_execs_cons (sx_simple ?_)
  k_steps
  refine sx_execs_nil ?_
  refine sx_again rfl ?_
  with_reducible (rename Fr _ _ _ _ => Fz6)
  with_reducible (rename News _ _ _ _ => Nz6)
  refine sx_done rfl Fz6 Nz6 hoI5 hne2 ?_
  intro hh7 F7 N7
  refine sx_back (f := .next) rfl ?_
  refine sx_execs_nil ?_
  refine sx_end (r := .ok (.ret .none)) rfl ?_
  obtain ⟨oCe, _, _, mve⟩ := gend (own' := [(l, _)]) hlv2 O2 F7 N7 (by intro q hq; rw [List.mem_singleton.mp hq]; exact .inl (by simp))
  exact ⟨rfl, rfl, gmoved_nil (mve _), rfl⟩

theorem tGroup5 {l : Addr} {its : List Value} {k f sz : Nat} (B : Below A₀ base outer h₀) (F : Fr h₀ L s.heap m) (X : (Mine.hd.heap_39 w.params).In h₀) (N : News h₀ L s.heap news) (T : Top p loose mean mg mb h₀) (hk : cs.kind = .function)
  (hd : dp + 1 < recursionLimit) (hu : un + 8 < cLine) (hl : (l, W.listOf its.toArray k) ∈ news) (hi : IntsAre its (rulerOf f sz)) (hf : f = 5) (hz2 : 2 ≤ sz) (hz6 : sz ≤ 6)
  (hret : ∀ G oG C oC gs h' tk', Fr h₀ L h' m → News h₀ L h' ((G, oG) :: (C, oC) :: news) → @LT.lt Nat _ C G → (∀ q ∈ news, @LT.lt Nat _ q.1 C) → gs.bare = true →
    GenIs PySem.Challenge.rw_st0018_01.row.prog w (ktrTop dp un gd cn cs L a ccd cl outer) h₀ false sz (fun r _ => r = .ok (.ret .none)) G oG s.gens.size 2 [(C, oC), (l, W.listOf its.toArray k)] gs →
    Q (.ref G) { s with heap := h', toks := tk', gens := s.gens.push gs }) :
  wpAny (model PySem.Challenge.rw_st0018_01.row.prog w) (ktrTop dp un gd cn cs L a ccd cl outer) (call (.ref 69) [.ref l]) Q E s := by
  revert X
  k_fill
  intro X
  refine wpAny_call ?_
  k_dflt cell_enter
  intro C G oC oG h' tk' F' N' hCG hnC hoC hle hoG
  try dsimp only
  try k_fold
  refine hret G oG C oC _ _ _ F' N' hCG hnC rfl ⟨hoG, ?_, ?_⟩
  · intro p hp
    rcases List.mem_cons.mp hp with rfl | hp
    · exact neN (by show @Ne Nat C G; omega)
    · rw [List.mem_singleton.mp hp]
      have := hnC _ hl
      exact neN (by show @Ne Nat l G; omega)
  have hn0 : h₀.get? l = none := (N _ hl).2.2
  have hlC : l ≠ C := neN (by have := hnC _ hl; show @Ne Nat l C; omega)
  subst hf
  obtain ⟨t0, t1, rfl⟩ : ∃ t0 t1 : Tok, its = [Value.int (sz : Int) t0, Value.int (127 : Int) t1] := by
    have hi9 : IntsAre its [(sz : Int), (127 : Int)] := hi
    cases hi9 with
    | cons n t0 h =>
      cases h with
      | cons n t1 h =>
        cases h; exact ⟨t0, t1, rfl⟩
  clear F' N'
  intro s0 hlv0
  refine ⟨_, _, _, .inl ⟨rfl, rfl, rfl⟩, ?_⟩
  obtain ⟨oth0, O0, F0, N0⟩ := gstart hlv0 hoC hle (by intro q hq; rw [List.mem_singleton.mp hq]; exact ⟨hlC, hn0⟩)
  rw [List.cons_append, List.nil_append] at N0
  refine sx_func ?_
  refine sx_execs_cons (sx_simple ?_)
  k_steps
  refine sx_execs_cons (sx_For_list (h₀ := h₀) (l := l) (its := [Value.int (sz : Int) t0, Value.int (127 : Int) t1].toArray) (k := k) ?_)
  k_steps
  unfold Halt
  with_reducible (rename Fr _ _ _ _ => F1)
  with_reducible (rename News _ _ _ _ => N1)
  refine ⟨rfl, _, _, F1, N1, ?_⟩
  intro I oI h₂ p0 eI hoI F2 N2 hlt
  have hIg := fresh_gone (own := [(l, _)]) hlv0 O0 F1 N1 eI
  have hIl : I ≠ l := neN (by have := hlt _ (.head _); show @Ne Nat I l; omega)
  have hIC : I ≠ C := (N2 _ (.head _)).2.1
  have hI0 : h₀.get? I = none := (N2 _ (.head _)).2.2
  have hne0 : ∀ q ∈ ((l, W.listOf [Value.int (sz : Int) t0, Value.int (127 : Int) t1].toArray k) :: oth0), q.1 ≠ I := fun q hq => neN (by have := hlt q hq; omega)
  try clear F0
  try clear N0
  try clear F1
  try clear N1
  refine sx_item (v := .int (sz : Int) t0) F2 N2 hoI rfl hne0 ?_
  intro hh3 oI3 F3 N3 hoI3
  try clear F2
  try clear N2
  k_steps
  refine sx_execs_cons (sx_If ?_)
  k_steps
  rw [if_neg (show ¬ (((sz : Int) == 127) = true) by simp; omega)]
  refine sx_execs_nil ?_
  dsimp only
  refine sx_execs_cons (sx_If ?_)
  k_steps
  rw [if_neg (show ¬ (((sz : Int) == 0) = true) by simp; omega)]
  refine sx_execs_nil ?_
  dsimp only
  refine sx_execs_cons (sx_Expr_Yield rfl rfl rfl ?_)
  k_steps
  unfold Halt
  intro kk3 ll3 pp3 hk3
  refine ⟨⟨_, rfl⟩, fun h => absurd h (by decide), ?_⟩
  with_reducible (rename Fr _ _ _ _ => Fy3)
  with_reducible (rename News _ _ _ _ => Ny3)
  obtain ⟨oC3, hoC3, _, mv3⟩ := gend (own' := [(I, oI3), (l, _)]) hlv0 O0 Fy3 Ny3 (by intro q hq; rcases List.mem_cons.mp hq with rfl | hq; exact .inr hIg; rw [List.mem_singleton.mp hq]; exact .inl (by simp))
  refine ⟨(C, oC3) :: [(I, oI3), (l, W.listOf [Value.int (sz : Int) t0, Value.int (127 : Int) t1].toArray k)], mv3 _, ?_⟩
  try clear Fy3
  try clear Ny3
  intro s1 hlv1
  refine ⟨_, _, _, .inr ⟨_, _, _, _, rfl, rfl⟩, hk3 _ _ ?_⟩
  obtain ⟨oth1, O1, F4, N4⟩ := gstart hlv1 hoC3 hle (by intro q hq; rcases List.mem_cons.mp hq with rfl | hq; exact ⟨hIC, hI0⟩; rw [List.mem_singleton.mp hq]; exact ⟨hlC, hn0⟩)
  rw [List.cons_append, List.cons_append, List.nil_append] at N4
  have hne1 : ∀ q ∈ ((l, W.listOf [Value.int (sz : Int) t0, Value.int (127 : Int) t1].toArray k) :: oth1), q.1 ≠ I := fun q hq => by
    rcases List.mem_cons.mp hq with rfl | hq
    · exact hIl.symm
    · exact fun e => (O1.sound q hq).2.1 (by simp [e])
  dsimp only
  refine sx_execs_cons (sx_simple ?_)
  k_steps
  refine sx_execs_nil ?_
  refine sx_again rfl ?_
  with_reducible (rename Fr _ _ _ _ => Fz4)
  with_reducible (rename News _ _ _ _ => Nz4)
  refine sx_item (v := .int (127 : Int) t1) Fz4 Nz4 hoI3 rfl hne1 ?_
  intro hh5 oI5 F5 N5 hoI5
  try clear Fz4
  try clear Nz4
  k_steps
  refine sx_execs_cons (sx_If ?_)
  k_steps
  rw [if_pos (show (((127 : Int) == 127) = true) by decide)]
  refine sx_execs_cons (sx_simple ?_)
  k_steps
  refine sx_back (f := .ret .none) rfl ?_
  refine sx_end (r := .ok (.ret .none)) rfl ?_
  with_reducible (rename Fr _ _ _ _ => Fe)
  with_reducible (rename News _ _ _ _ => Ne)
  obtain ⟨oCe, _, _, mve⟩ := gend (own' := [(I, oI5), (l, _)]) hlv1 O1 Fe Ne (by intro q hq; rcases List.mem_cons.mp hq with rfl | hq; exact .inl (by simp); rw [List.mem_singleton.mp hq]; exact .inl (by simp))
  exact ⟨rfl, rfl, gmoved_nil (mve _), rfl⟩

theorem tGroup7 {l : Addr} {its : List Value} {k f sz : Nat} (B : Below A₀ base outer h₀) (F : Fr h₀ L s.heap m) (X : (Mine.hd.heap_39 w.params).In h₀) (N : News h₀ L s.heap news) (T : Top p loose mean mg mb h₀) (hk : cs.kind = .function)
  (hd : dp + 1 < recursionLimit) (hu : un + 8 < cLine) (hl : (l, W.listOf its.toArray k) ∈ news) (hi : IntsAre its (rulerOf f sz)) (hf : f = 7) (hz2 : 2 ≤ sz) (hz6 : sz ≤ 6)
  (hret : ∀ G oG C oC gs h' tk', Fr h₀ L h' m → News h₀ L h' ((G, oG) :: (C, oC) :: news) → @LT.lt Nat _ C G → (∀ q ∈ news, @LT.lt Nat _ q.1 C) → gs.bare = true →
    GenIs PySem.Challenge.rw_st0018_01.row.prog w (ktrTop dp un gd cn cs L a ccd cl outer) h₀ false sz (fun r _ => r = .ok (.ret .none)) G oG s.gens.size 1 [(C, oC), (l, W.listOf its.toArray k)] gs →
    Q (.ref G) { s with heap := h', toks := tk', gens := s.gens.push gs }) :
  wpAny (model PySem.Challenge.rw_st0018_01.row.prog w) (ktrTop dp un gd cn cs L a ccd cl outer) (call (.ref 69) [.ref l]) Q E s := by
  revert X
  k_fill
  intro X
  refine wpAny_call ?_
  k_dflt cell_enter
  intro C G oC oG h' tk' F' N' hCG hnC hoC hle hoG
  try dsimp only
  try k_fold
  refine hret G oG C oC _ _ _ F' N' hCG hnC rfl ⟨hoG, ?_, ?_⟩
  · intro p hp
    rcases List.mem_cons.mp hp with rfl | hp
    · exact neN (by show @Ne Nat C G; omega)
    · rw [List.mem_singleton.mp hp]
      have := hnC _ hl
      exact neN (by show @Ne Nat l G; omega)
  have hn0 : h₀.get? l = none := (N _ hl).2.2
  have hlC : l ≠ C := neN (by have := hnC _ hl; show @Ne Nat l C; omega)
  subst hf
  obtain ⟨t0, t1, rfl⟩ : ∃ t0 t1 : Tok, its = [Value.int (127 : Int) t0, Value.int (sz : Int) t1] := by
    have hi9 : IntsAre its [(127 : Int), (sz : Int)] := hi
    cases hi9 with
    | cons n t0 h =>
      cases h with
      | cons n t1 h =>
        cases h; exact ⟨t0, t1, rfl⟩
  clear F' N'
  intro s0 hlv0
  refine ⟨_, _, _, .inl ⟨rfl, rfl, rfl⟩, ?_⟩
  obtain ⟨oth0, O0, F0, N0⟩ := gstart hlv0 hoC hle (by intro q hq; rw [List.mem_singleton.mp hq]; exact ⟨hlC, hn0⟩)
  rw [List.cons_append, List.nil_append] at N0
  refine sx_func ?_
  refine sx_execs_cons (sx_simple ?_)
  k_steps
  refine sx_execs_cons (sx_For_list (h₀ := h₀) (l := l) (its := [Value.int (127 : Int) t0, Value.int (sz : Int) t1].toArray) (k := k) ?_)
  k_steps
  unfold Halt
  with_reducible (rename Fr _ _ _ _ => F1)
  with_reducible (rename News _ _ _ _ => N1)
  refine ⟨rfl, _, _, F1, N1, ?_⟩
  intro I oI h₂ p0 eI hoI F2 N2 hlt
  have hIg := fresh_gone (own := [(l, _)]) hlv0 O0 F1 N1 eI
  have hIl : I ≠ l := neN (by have := hlt _ (.head _); show @Ne Nat I l; omega)
  have hIC : I ≠ C := (N2 _ (.head _)).2.1
  have hI0 : h₀.get? I = none := (N2 _ (.head _)).2.2
  have hne0 : ∀ q ∈ ((l, W.listOf [Value.int (127 : Int) t0, Value.int (sz : Int) t1].toArray k) :: oth0), q.1 ≠ I := fun q hq => neN (by have := hlt q hq; omega)
  try clear F0
  try clear N0
  try clear F1
  try clear N1
  refine sx_item (v := .int (127 : Int) t0) F2 N2 hoI rfl hne0 ?_
  intro hh3 oI3 F3 N3 hoI3
  try clear F2
  try clear N2
  k_steps
  refine sx_execs_cons (sx_If ?_)
  k_steps
  rw [if_pos (show (((127 : Int) == 127) = true) by decide)]
  refine sx_execs_cons (sx_simple ?_)
  k_steps
  refine sx_back (f := .ret .none) rfl ?_
  refine sx_end (r := .ok (.ret .none)) rfl ?_
  with_reducible (rename Fr _ _ _ _ => Fe)
  with_reducible (rename News _ _ _ _ => Ne)
  obtain ⟨oCe, _, _, mve⟩ := gend (own' := [(I, oI3), (l, _)]) hlv0 O0 Fe Ne (by intro q hq; rcases List.mem_cons.mp hq with rfl | hq; exact .inr hIg; rw [List.mem_singleton.mp hq]; exact .inl (by simp))
  exact ⟨rfl, rfl, gmoved_nil (mve _), rfl⟩
end Mine
end

section
open PySem PySem.W PyProof.Rows PySem.Calls
/-- the walker's notes of the text before are put away -/
theorem Mine.freshPg {prog : Program} {w : World} {A : Around} {env : Env} {Q : Flow → Shared → Prop} {E : Value → Shared → Prop} {s : Shared} (h : Q .next s) : wpAny (model prog w) A (execs [] env) Q E s := by
  w_on
  w_top off
  k_with_none
  walk1
  exact h
end
section
open PySem PySem.W PyProof.Rows PySem.Calls
set_option maxRecDepth 100000
set_option linter.all false
namespace Mine
def dotS (k : Nat) : Str := ⟨(List.replicate k 46).toArray⟩
/-- the word's table, each row d dots on -/
def rowsAt (n d : Nat) : List (Str × Str) := (List.range n).map fun k => (dotS (k + 1 + d), ltr k)
def pg (n d : Nat) : List Nat := (pageS (rowsAt n d)).cps.toList
/-- a page's codes, its ends e -/
def pgE (e : List Nat) (d : Nat) : List Nat → List Nat
  | [] => e
  | k :: ks => List.replicate (k + 1 + d) 46 ++ 58 :: 32 :: (97 + k) :: (e ++ pgE e d ks)
theorem join_rows (d : Nat) : ∀ ks : List Nat, (Str.join rn ((ks.map fun k => rowS (dotS (k + 1 + d), ltr k)) ++ [Str.empty, Str.empty])).cps.toList = pgE [13, 10] d ks
  | [] => rfl
  | k :: ks => by
    have ih := join_rows d ks
    have e : Str.join rn (((k :: ks).map fun k => rowS (dotS (k + 1 + d), ltr k)) ++ [Str.empty, Str.empty]) = rowS (dotS (k + 1 + d), ltr k) ++ rn ++ Str.join rn ((ks.map fun k => rowS (dotS (k + 1 + d), ltr k)) ++ [Str.empty, Str.empty]) := by
      cases ks <;> rfl
    rw [e, Str.cps_append, Str.cps_append, Array.toList_append, Array.toList_append, ih]
    show (dotS (k + 1 + d) ++ PySem.Str.ofString ": " ++ ltr k).cps.toList ++ [13, 10] ++ _ = _
    rw [Str.cps_append, Str.cps_append, Array.toList_append, Array.toList_append]
    rw [show (PySem.Str.ofString ": ").cps.toList = [58, 32] from by decide +kernel]
    show List.replicate (k + 1 + d) 46 ++ [58, 32] ++ [97 + k] ++ [13, 10] ++ _ = _
    simp [pgE]
theorem pg_eq (n d : Nat) : pg n d = pgE [13, 10] d (List.range n) := by
  unfold pg pageS rowsAt
  rw [List.map_map]
  exact join_rows d (List.range n)
theorem crlf_dots (m : Nat) (r : List Nat) : crlf (List.replicate m 46 ++ r) = List.replicate m 46 ++ crlf r := by
  induction m with
  | zero => rfl
  | succ m ih => rw [List.replicate_succ, List.cons_append, List.cons_append, ← ih]; rfl
theorem dots_dots (m : Nat) (r : List Nat) : dots false (List.replicate m 46 ++ r) = List.replicate m 46 ++ dots false r := by
  induction m with
  | zero => rfl
  | succ m ih =>
    rw [List.replicate_succ, List.cons_append, List.cons_append, ← ih]
    rfl
theorem crlf_plain {c : Nat} (r : List Nat) (h1 : c ≠ 13) (h2 : c ≠ 10) : crlf (c :: r) = c :: crlf r := by
  rw [crlf]
  · exact fun _ h _ => h1 h
  · exact fun h => h1 h
  · exact h2
theorem crlf_pg {e : List Nat} {d : Nat} (he0 : crlf e = [13, 10]) (he : ∀ ks, crlf (e ++ pgE e d ks) = 13 :: 10 :: crlf (pgE e d ks)) : ∀ ks : List Nat, crlf (pgE e d ks) = pgE [13, 10] d ks
  | [] => he0
  | k :: ks => by
    rw [pgE, crlf_dots, crlf_plain _ (by decide) (by decide), crlf_plain _ (by decide) (by decide), crlf_plain _ (by omega) (by omega), he, crlf_pg he0 he ks]
    rfl
theorem pgE_13 (d : Nat) (ks : List Nat) (r' : List Nat) : pgE [13] d ks ≠ 10 :: r' := by
  cases ks with
  | nil => intro h; cases h
  | cons k ks =>
    have e1 : k + 1 + d = (k + d) + 1 := by omega
    rw [pgE, e1, List.replicate_succ, List.cons_append]
    intro h; injection h with h; cases h
/-- the ends -/
def eolOf : Nat → List Nat
  | 0 => [10]
  | 1 => [13]
  | _ => [13, 10]
theorem crlf_ends (x d : Nat) (ks : List Nat) : crlf (pgE (eolOf x) d ks) = pgE [13, 10] d ks := by
  match x with
  | 0 => exact crlf_pg (e := [10]) rfl (fun _ => rfl) ks
  | 1 => exact crlf_pg (e := [13]) rfl (fun ks => crlf_13 (pgE_13 d ks)) ks
  | n + 2 => exact crlf_pg (e := [13, 10]) rfl (fun _ => rfl) ks
theorem dots_pg (d : Nat) : ∀ ks : List Nat, dots true (pgE [13, 10] d ks) = pgE [13, 10] (d + 1) ks
  | [] => rfl
  | k :: ks => by
    have ih := dots_pg d ks
    have e1 : k + 1 + d = (k + d) + 1 := by omega
    have e2 : k + 1 + (d + 1) = (k + d) + 1 + 1 := by omega
    rw [pgE, pgE, e1, e2]
    show 46 :: 46 :: dots false (List.replicate (k + d) 46 ++ _) = _
    rw [dots_dots]
    show 46 :: 46 :: (List.replicate (k + d) 46 ++ (58 :: 32 :: (97 + k) :: dots ((97 + k) == 10) (13 :: 10 :: pgE [13, 10] d ks))) = _
    rw [show ((97 + k) == 10) = false from by simp; omega]
    show 46 :: 46 :: (List.replicate (k + d) 46 ++ (58 :: 32 :: (97 + k) :: 13 :: 10 :: dots true (pgE [13, 10] d ks))) = _
    rw [ih]
    rfl
theorem qd_ends (x d : Nat) (ks : List Nat) : qd (pgE (eolOf x) d ks) = pgE [13, 10] (d + 1) ks := by
  unfold qd
  rw [crlf_ends, dots_pg]
theorem qd_pg (d : Nat) (ks : List Nat) : qd (pgE [13, 10] d ks) = pgE [13, 10] (d + 1) ks := qd_ends 2 d ks
/-- one size's links -/
def turnG (n o : Nat) (G : List (Nat × Nat)) : List (Nat × Nat) := (List.range n).foldl (fun G k => if k + 1 + o ≤ n then joinG G k (k + o) else G) G
/-- a ruler's links: the size c times, till the first row is beyond n -/
def layG (n sz : Nat) : Nat → Nat → List (Nat × Nat) → List (Nat × Nat)
  | 0, _, G => G
  | c + 1, o, G => if n < 1 + (o + sz) then G else layG n sz c (o + sz) (turnG n (o + sz) G)
/-- the law's asks -/
def asks (n p q : Nat) (G : List (Nat × Nat)) : Bool :=
  ((List.range n).all fun k => ((List.range n).find? fun j => root G 10 j == root G 10 k) == some (root G 10 k) &&
    (!(decide (p ≤ k)) || root G 10 k == root G 10 (k - p)) && (!(decide (q ≤ k)) || root G 10 k == root G 10 (k - q))) &&
  ((((List.range n).map (root G 10)).eraseDups.length : Int) == leftI n p q)
/-- what a ruler's count may be -/
def cnts (n sz : Nat) : List Nat := [0, 1, 2, (n - 1) / sz + 1]
def stepOf (n sz c : Nat) : Nat := if c = 0 then n else sz
end Mine
end

section
open PySem PySem.W PyProof.Rows PySem.Calls
/-- the walker's notes of the text before are put away -/
theorem Mine.freshPa {prog : Program} {w : World} {A : Around} {env : Env} {Q : Flow → Shared → Prop} {E : Value → Shared → Prop} {s : Shared} (h : Q .next s) : wpAny (model prog w) A (execs [] env) Q E s := by
  w_on
  w_top off
  k_with_none
  walk1
  exact h
end
section
open PySem PySem.W PyProof.Rows PySem.Calls
set_option maxRecDepth 100000
set_option linter.all false
namespace Mine
/-- the asks for words of n + 1 places, the first ruler's size told -/
def asksN (n s1 : Nat) : Bool := (cnts (n + 1) s1).all fun c1 => [2, 3, 4, 5, 6].all fun s2 => (cnts (n + 1) s2).all fun c2 =>
    asks (n + 1) (stepOf (n + 1) s1 c1) (stepOf (n + 1) s2 c2) (layG (n + 1) s2 c2 0 (layG (n + 1) s1 c1 0 []))
theorem asks_0_2 : asksN 0 2 = true := by decide +kernel
theorem asks_0_3 : asksN 0 3 = true := by decide +kernel
theorem asks_0_4 : asksN 0 4 = true := by decide +kernel
theorem asks_0_5 : asksN 0 5 = true := by decide +kernel
theorem asks_0_6 : asksN 0 6 = true := by decide +kernel
theorem asks_1_2 : asksN 1 2 = true := by decide +kernel
theorem asks_1_3 : asksN 1 3 = true := by decide +kernel
theorem asks_1_4 : asksN 1 4 = true := by decide +kernel
theorem asks_1_5 : asksN 1 5 = true := by decide +kernel
theorem asks_1_6 : asksN 1 6 = true := by decide +kernel
theorem asks_2_2 : asksN 2 2 = true := by decide +kernel
theorem asks_2_3 : asksN 2 3 = true := by decide +kernel
theorem asks_2_4 : asksN 2 4 = true := by decide +kernel
theorem asks_2_5 : asksN 2 5 = true := by decide +kernel
theorem asks_2_6 : asksN 2 6 = true := by decide +kernel
theorem asks_3_2 : asksN 3 2 = true := by decide +kernel
theorem asks_3_3 : asksN 3 3 = true := by decide +kernel
theorem asks_3_4 : asksN 3 4 = true := by decide +kernel
theorem asks_3_5 : asksN 3 5 = true := by decide +kernel
theorem asks_3_6 : asksN 3 6 = true := by decide +kernel
theorem asks_4_2 : asksN 4 2 = true := by decide +kernel
theorem asks_4_3 : asksN 4 3 = true := by decide +kernel
theorem asks_4_4 : asksN 4 4 = true := by decide +kernel
theorem asks_4_5 : asksN 4 5 = true := by decide +kernel
theorem asks_4_6 : asksN 4 6 = true := by decide +kernel
theorem asks_5_2 : asksN 5 2 = true := by decide +kernel
theorem asks_5_3 : asksN 5 3 = true := by decide +kernel
theorem asks_5_4 : asksN 5 4 = true := by decide +kernel
theorem asks_5_5 : asksN 5 5 = true := by decide +kernel
theorem asks_5_6 : asksN 5 6 = true := by decide +kernel
theorem asks_6_2 : asksN 6 2 = true := by decide +kernel
theorem asks_6_3 : asksN 6 3 = true := by decide +kernel
theorem asks_6_4 : asksN 6 4 = true := by decide +kernel
theorem asks_6_5 : asksN 6 5 = true := by decide +kernel
theorem asks_6_6 : asksN 6 6 = true := by decide +kernel
theorem asks_7_2 : asksN 7 2 = true := by decide +kernel
theorem asks_7_3 : asksN 7 3 = true := by decide +kernel
theorem asks_7_4 : asksN 7 4 = true := by decide +kernel
theorem asks_7_5 : asksN 7 5 = true := by decide +kernel
theorem asks_7_6 : asksN 7 6 = true := by decide +kernel
theorem asks_8_2 : asksN 8 2 = true := by decide +kernel
theorem asks_8_3 : asksN 8 3 = true := by decide +kernel
theorem asks_8_4 : asksN 8 4 = true := by decide +kernel
theorem asks_8_5 : asksN 8 5 = true := by decide +kernel
theorem asks_8_6 : asksN 8 6 = true := by decide +kernel
theorem asks_9_2 : asksN 9 2 = true := by decide +kernel
theorem asks_9_3 : asksN 9 3 = true := by decide +kernel
theorem asks_9_4 : asksN 9 4 = true := by decide +kernel
theorem asks_9_5 : asksN 9 5 = true := by decide +kernel
theorem asks_9_6 : asksN 9 6 = true := by decide +kernel
theorem asks_all : ((List.range 10).all fun n => [2, 3, 4, 5, 6].all fun s1 => (cnts (n + 1) s1).all fun c1 => [2, 3, 4, 5, 6].all fun s2 => (cnts (n + 1) s2).all fun c2 =>
    asks (n + 1) (stepOf (n + 1) s1 c1) (stepOf (n + 1) s2 c2) (layG (n + 1) s2 c2 0 (layG (n + 1) s1 c1 0 []))) = true := by
  refine List.all_eq_true.mpr fun n hn => List.all_eq_true.mpr fun s hs => ?_
  show asksN n s = true
  have h1 : n = 0 ∨ n = 1 ∨ n = 2 ∨ n = 3 ∨ n = 4 ∨ n = 5 ∨ n = 6 ∨ n = 7 ∨ n = 8 ∨ n = 9 := by
    have := List.mem_range.mp hn
    omega
  have h2 : s = 2 ∨ s = 3 ∨ s = 4 ∨ s = 5 ∨ s = 6 := by simpa using hs
  clear hn hs
  rcases h1 with rfl | rfl | rfl | rfl | rfl | rfl | rfl | rfl | rfl | rfl
  · rcases h2 with rfl | rfl | rfl | rfl | rfl
    · exact asks_0_2
    · exact asks_0_3
    · exact asks_0_4
    · exact asks_0_5
    · exact asks_0_6
  · rcases h2 with rfl | rfl | rfl | rfl | rfl
    · exact asks_1_2
    · exact asks_1_3
    · exact asks_1_4
    · exact asks_1_5
    · exact asks_1_6
  · rcases h2 with rfl | rfl | rfl | rfl | rfl
    · exact asks_2_2
    · exact asks_2_3
    · exact asks_2_4
    · exact asks_2_5
    · exact asks_2_6
  · rcases h2 with rfl | rfl | rfl | rfl | rfl
    · exact asks_3_2
    · exact asks_3_3
    · exact asks_3_4
    · exact asks_3_5
    · exact asks_3_6
  · rcases h2 with rfl | rfl | rfl | rfl | rfl
    · exact asks_4_2
    · exact asks_4_3
    · exact asks_4_4
    · exact asks_4_5
    · exact asks_4_6
  · rcases h2 with rfl | rfl | rfl | rfl | rfl
    · exact asks_5_2
    · exact asks_5_3
    · exact asks_5_4
    · exact asks_5_5
    · exact asks_5_6
  · rcases h2 with rfl | rfl | rfl | rfl | rfl
    · exact asks_6_2
    · exact asks_6_3
    · exact asks_6_4
    · exact asks_6_5
    · exact asks_6_6
  · rcases h2 with rfl | rfl | rfl | rfl | rfl
    · exact asks_7_2
    · exact asks_7_3
    · exact asks_7_4
    · exact asks_7_5
    · exact asks_7_6
  · rcases h2 with rfl | rfl | rfl | rfl | rfl
    · exact asks_8_2
    · exact asks_8_3
    · exact asks_8_4
    · exact asks_8_5
    · exact asks_8_6
  · rcases h2 with rfl | rfl | rfl | rfl | rfl
    · exact asks_9_2
    · exact asks_9_3
    · exact asks_9_4
    · exact asks_9_5
    · exact asks_9_6
end Mine
end

section
open PySem PySem.W PyProof.Rows PySem.Calls
/-- the walker's notes of the text before are put away -/
theorem Mine.freshPr {prog : Program} {w : World} {A : Around} {env : Env} {Q : Flow → Shared → Prop} {E : Value → Shared → Prop} {s : Shared} (h : Q .next s) : wpAny (model prog w) A (execs [] env) Q E s := by
  w_on
  w_top off
  k_with_none
  walk1
  exact h
end
section
open PySem PySem.W PyProof.Rows PySem.Calls
set_option maxRecDepth 100000
set_option linter.all false
namespace Mine
def eolS (x : Nat) : Str := ⟨(eolOf x).toArray⟩
theorem repl_all : ([0, 1, 2].all fun x => (List.range 11).all fun n => (Txt.replace (pageS (rowsAt n 0)) rn (eolS x)).cps.toList == pgE (eolOf x) 0 (List.range n)) = true := by decide +kernel
theorem repl_pg {x n : Nat} (hx : x < 3) (hn : n ≤ 10) : (Txt.replace (pageS (rowsAt n 0)) rn (eolS x)).cps.toList = pgE (eolOf x) 0 (List.range n) := by
  have hx' : x ∈ [0, 1, 2] := by
    have : x = 0 ∨ x = 1 ∨ x = 2 := by omega
    rcases this with rfl | rfl | rfl <;> simp
  exact eq_of_beq (List.all_eq_true.mp (List.all_eq_true.mp repl_all x hx') n (List.mem_range.mpr (by omega)))
end Mine
end

section
open PySem PySem.W PyProof.Rows PySem.Calls
/-- the walker's notes of the text before are put away -/
theorem Mine.freshNb {prog : Program} {w : World} {A : Around} {env : Env} {Q : Flow → Shared → Prop} {E : Value → Shared → Prop} {s : Shared} (h : Q .next s) : wpAny (model prog w) A (execs [] env) Q E s := by
  w_on
  w_top off
  k_with_none
  walk1
  exact h
end
section
open PySem PySem.W PyProof.Rows PySem.Calls
set_option maxRecDepth 100000
set_option maxHeartbeats 8000000
namespace Mine
def isTxt (v : Value) : Bool := match v with | .str _ _ => true | _ => false
def noBook (o : Option Obj) : Bool := match o with
  | some o => (match o.data with
    | .dict es _ => es.all (fun e => isTxt e.key) && (nsFind es sharingNotToldKey).isNone
    | _ => false)
  | none => false
theorem booked_of {K : Frag} {h : Heap} (X : K.In h) (e : noBook (K.lookup cStatics) = true) : NoneBooked h := by
  unfold noBook at e
  cases ho : K.lookup cStatics with
  | none => rw [ho] at e; cases e
  | some o =>
    rw [ho] at e
    cases hd : o.data with
    | dict es ep =>
      simp only [hd, Bool.and_eq_true] at e
      refine ⟨fun name => nsFind es name, ⟨o, es, ep, X _ _ ho, hd, fun x hx => ?_, fun _ => rfl⟩, Option.isNone_iff_eq_none.mp e.2⟩
      have := Array.all_eq_true_iff_forall_mem.mp e.1 x hx
      cases hk : x.key with
      | str n t => exact ⟨n, t, rfl⟩
      | _ => rw [hk] at this; cases this
    | _ => simp only [hd] at e; cases e
theorem booked {w : World} {h : Heap} (X : (Mine.hd.heap_39 w.params).In h) : NoneBooked h := booked_of X (by with_unfolding_all rfl)
end Mine
end

section
open PySem PySem.W PyProof.Rows PySem.Calls
/-- the walker's notes of the text before are put away -/
theorem Mine.freshSp {prog : Program} {w : World} {A : Around} {env : Env} {Q : Flow → Shared → Prop} {E : Value → Shared → Prop} {s : Shared} (h : Q .next s) : wpAny (model prog w) A (execs [] env) Q E s := by
  w_on
  w_top off
  k_with_none
  walk1
  exact h
end
section
open PySem PySem.W PyProof.Rows PySem.Calls
set_option maxRecDepth 100000
set_option linter.all false
namespace Mine
open PySem.StrLaws PySem.Builtin.Str
def joinC (y : List Nat) : List Str → List Nat
  | [] => []
  | [p] => p.cps.toList
  | p :: q :: r => p.cps.toList ++ (y ++ joinC y (q :: r))
theorem joinC_join (y : Str) : ∀ ps : List Str, (Str.join y ps).cps.toList = joinC y.cps.toList ps
  | [] => rfl
  | [p] => rfl
  | p :: q :: r => by
    have ih := joinC_join y (q :: r)
    show (p ++ y ++ Str.join y (q :: r)).cps.toList = _
    rw [Str.cps_append, Str.cps_append, Array.toList_append, Array.toList_append, ih, List.append_assoc]
    rfl
theorem at_head {x y : Str} {h : Nat} {ys : List Nat} (hy : y.cps.toList = h :: ys) {k : Nat} (a : At x y x.length k) : x.cps.toList[k]? = some h := by
  have e := a.2
  rw [subAt_eq, hy] at e
  have e := eq_of_beq e
  have hl : y.length = ys.length + 1 := by
    show y.cps.size = _
    rw [← Array.length_toList, hy]; rfl
  rw [hl] at e
  have : ((x.cps.toList.drop k).take (ys.length + 1))[0]? = some h := by rw [e]; rfl
  rw [List.getElem?_take_of_lt (by omega), List.getElem?_drop] at this
  simpa using this
theorem parts_join {x y : Str} {h : Nat} {ys : List Nat} (hy : y.cps.toList = h :: ys) : ∀ (ps : List Str) (cuts : List Nat) (a f : Nat), ps ≠ [] → (∀ p ∈ ps, h ∉ p.cps.toList) → x.cps.toList.drop a = joinC y.cps.toList ps → a ≤ x.length →
    ChainG x y x.length a cuts f → (∀ k, f ≤ k → ¬ At x y x.length k) → partsFrom x y.length a cuts = ps
  | [], _, _, _, h0, _, _, _, _, _ => absurd rfl h0
  | [p], cuts, a, f, _, hp, hx, ha, hc, hn => by
    have no : ∀ k, a ≤ k → ¬ At x y x.length k := fun k hk hA => by
      have e := at_head hy hA
      have e2 : (x.cps.toList.drop a)[k - a]? = some h := by rw [List.getElem?_drop, show a + (k - a) = k by omega]; exact e
      rw [hx] at e2
      exact hp p (.head _) (List.mem_of_getElem? e2)
    cases cuts with
    | cons c r => exact absurd hc.2.1 (no c hc.1)
    | nil =>
      show [strSub x a x.length] = [p]
      congr 1
      apply Str.ext'
      apply Array.toList_inj.mp
      rw [strSub_toList, hx]
      refine List.take_of_length_le ?_
      have : (x.cps.toList.drop a).length = p.cps.toList.length := by rw [hx]; rfl
      rw [List.length_drop] at this
      show p.cps.toList.length ≤ x.cps.size - a
      rw [Array.length_toList] at this
      omega
  | p :: q :: r, cuts, a, f, _, hp, hx, ha, hc, hn => by
    have hx' : x.cps.toList.drop a = p.cps.toList ++ (y.cps.toList ++ joinC y.cps.toList (q :: r)) := hx
    have hlen : x.length - a = p.length + (y.length + (joinC y.cps.toList (q :: r)).length) := by
      have := congrArg List.length hx'
      simp only [List.length_drop, List.length_append, Array.length_toList] at this
      exact this
    have yl : y.length = ys.length + 1 := by
      show y.cps.size = _
      rw [← Array.length_toList, hy]; rfl
    have hA : At x y x.length (a + p.length) := by
      refine ⟨by omega, ?_⟩
      rw [subAt_eq, ← List.drop_drop, hx', List.drop_left' (by simp [Str.length])]
      rw [List.take_left' (by simp [Str.length])]
      exact beq_self_eq_true _
    have no : ∀ k, a ≤ k → k < a + p.length → ¬ At x y x.length k := fun k h1 h2 hA => by
      have e := at_head hy hA
      have e2 : (x.cps.toList.drop a)[k - a]? = some h := by rw [List.getElem?_drop, show a + (k - a) = k by omega]; exact e
      rw [hx', List.getElem?_append_left (by show k - a < p.cps.toList.length; rw [Array.length_toList]; show k - a < p.length; omega)] at e2
      exact hp p (.head _) (List.mem_of_getElem? e2)
    cases cuts with
    | nil =>
      have e : f = a := hc
      exact absurd hA (hn _ (by omega))
    | cons c r' =>
      have ec : c = a + p.length := by
        rcases Nat.lt_trichotomy c (a + p.length) with h1 | h1 | h1
        · exact absurd hc.2.1 (no c hc.1 h1)
        · exact h1
        · exact absurd hA (hc.2.2.1 _ (by omega) h1)
      subst ec
      show strSub x a (a + p.length) :: partsFrom x y.length (a + p.length + y.length) r' = _
      rw [parts_join hy (q :: r) r' _ f (by simp) (fun z hz => hp z (.tail _ hz)) ?_ (by omega) hc.2.2.2 hn]
      · congr 1
        apply Str.ext'
        apply Array.toList_inj.mp
        rw [strSub_toList, hx', show a + p.length - a = p.length by omega]
        exact List.take_left' (by simp [Str.length])
      · rw [← List.drop_drop, ← List.drop_drop, hx', List.drop_left' (by simp [Str.length]), List.drop_left' (by simp [Str.length])]
theorem split_join {y : Str} {h : Nat} {ys : List Nat} (hy : y.cps.toList = h :: ys) (hk : _root_.PySem.Builtin.Str.strKind y = 1) (p q : Str) (r : List Str) (hp : ∀ z ∈ p :: q :: r, h ∉ z.cps.toList) : Txt.split (Str.join y (p :: q :: r)) y = p :: q :: r := by
  generalize hx : Str.join y (p :: q :: r) = x
  have ex : x.cps.toList = joinC y.cps.toList (p :: q :: r) := by rw [← hx]; exact joinC_join y _
  have yl : y.length = ys.length + 1 := by
    show y.cps.size = _
    rw [← Array.length_toList, hy]; rfl
  obtain ⟨f, hG, hn⟩ := occ_tight x y (by omega)
  have key := parts_join hy (p :: q :: r) _ 0 f (by simp) hp ex (Nat.zero_le _) hG hn
  unfold Txt.split
  rw [if_neg, if_neg, partsBetween_eq, key]
  · intro he
    have e0 : occurrences x y 0 x.length (x.length + 1) = [] := List.isEmpty_iff.mp he
    rw [e0] at key
    cases key
  · intro he
    rw [Bool.or_eq_true, decide_eq_true_eq, decide_eq_true_eq] at he
    rcases he with he | he
    · have := congrArg List.length ex
      have e2 : (joinC y.cps.toList (p :: q :: r)).length = p.cps.toList.length + (y.cps.toList.length + (joinC y.cps.toList (q :: r)).length) := by
        show (p.cps.toList ++ (y.cps.toList ++ _)).length = _
        rw [List.length_append, List.length_append]
      rw [e2] at this
      simp only [Array.length_toList] at this
      have h1 : x.cps.size < y.cps.size := he
      omega
    · rw [hk] at he
      have : 1 ≤ _root_.PySem.Builtin.Str.strKind x := by unfold _root_.PySem.Builtin.Str.strKind; split <;> (try omega); split <;> omega
      omega
/-- a page's parts -/
theorem split_page {n d : Nat} (hn : 1 ≤ n) : Txt.split (pageS (rowsAt n d)) rn = (rowsAt n d).map rowS ++ [Str.empty, Str.empty] := by
  unfold pageS
  have hne : ∃ p q r, (rowsAt n d).map rowS ++ [Str.empty, Str.empty] = p :: q :: r := by
    cases e : (rowsAt n d).map rowS with
    | nil => exact ⟨_, _, _, rfl⟩
    | cons a l => cases l <;> exact ⟨_, _, _, rfl⟩
  obtain ⟨p, q, r, e⟩ := hne
  rw [e]
  refine split_join (h := 13) (ys := [10]) rfl (by decide +kernel) p q r ?_
  rw [← e]
  intro z hz
  rcases List.mem_append.mp hz with hz | hz
  · unfold rowsAt at hz
    rw [List.map_map] at hz
    obtain ⟨k, _, rfl⟩ := List.mem_map.mp hz
    show 13 ∉ (dotS (k + 1 + d) ++ PySem.Str.ofString ": " ++ ltr k).cps.toList
    rw [Str.cps_append, Str.cps_append, Array.toList_append, Array.toList_append, show (PySem.Str.ofString ": ").cps.toList = [58, 32] from by decide +kernel]
    show 13 ∉ List.replicate (k + 1 + d) 46 ++ [58, 32] ++ [97 + k]
    intro h
    simp at h
    exact absurd (show (13 : Nat) = 97 + k from h) (by omega)
  · have : z = Str.empty := by simpa using hz
    rw [this]; decide
theorem split_row {m k : Nat} : Txt.split (rowS (dotS m, ltr k)) (PySem.Str.ofString ": ") = [dotS m, ltr k] := by
  have e : rowS (dotS m, ltr k) = Str.join (PySem.Str.ofString ": ") [dotS m, ltr k] := rfl
  rw [e]
  refine split_join (h := 58) (ys := [32]) (by decide +kernel) (by decide +kernel) _ _ [] ?_
  intro z hz
  rcases List.mem_cons.mp hz with rfl | hz
  · show 58 ∉ List.replicate m 46
    intro h; simp only [List.mem_replicate] at h; omega
  · rw [List.mem_singleton.mp hz]
    show 58 ∉ [97 + k]
    intro h
    simp at h
    exact absurd (show (58 : Nat) = 97 + k from h) (by omega)
/-- a page of these codes is the rows' page -/
theorem page_is {y : Str} {n d : Nat} (h : y.cps.toList = pgE [13, 10] d (List.range n)) : y = pageS (rowsAt n d) := by
  apply Str.ext'
  apply Array.toList_inj.mp
  rw [h, ← pg_eq]; rfl
end Mine
end

section
open PySem PySem.W PyProof.Rows PySem.Calls
/-- the walker's notes of the text before are put away -/
theorem Mine.freshGu {prog : Program} {w : World} {A : Around} {env : Env} {Q : Flow → Shared → Prop} {E : Value → Shared → Prop} {s : Shared} (h : Q .next s) : wpAny (model prog w) A (execs [] env) Q E s := by
  w_on
  w_top off
  k_with_none
  walk1
  exact h
end
section
open PySem PySem.W PySem.W.X PyProof.Rows PySem.Calls
set_option maxRecDepth 100000
set_option maxHeartbeats 8000000
set_option linter.all false
namespace Mine
variable {w : World} {p : Program} {loose : List Str} {mean : ExcName → Option Value} {mg mb : Str → Option Value}
  {dp un : Nat} {gd : Option (List Code)} {cn : Str} {cs : Scope} {a : Addr} {ccd : Value} {cl : List (Str × Addr)} {outer : List Env} {A₀ : Around} {base h₀ : Heap} {L : Addr} {m : Str → Option Value} {news : List (Addr × Obj)} {s : Shared} {Q E : Value → Shared → Prop}

def infOf (f : Nat) : Bool := f == 0 || f == 3
def capOf (f : Nat) : Nat := [0, 1, 1, 0, 2, 1, 0, 0].getD f 0
theorem tGroup {l : Addr} {its : List Value} {k f sz n : Nat} (B : Below A₀ base outer h₀) (F : Fr h₀ L s.heap m) (X : (Mine.hd.heap_39 w.params).In h₀) (N : News h₀ L s.heap news) (T : Top p loose mean mg mb h₀) (hk : cs.kind = .function)
  (hd : dp + 1 < recursionLimit) (hu : un + 8 < cLine) (hl : (l, W.listOf its.toArray k) ∈ news) (hi : IntsAre its (rulerOf f sz)) (hf8 : f < 8) (hf6 : f ≠ 6) (hn : infOf f = false → n = capOf f + 1) (hz2 : 2 ≤ sz) (hz6 : sz ≤ 6)
  (hret : ∀ G oG C oC gs h' tk', Fr h₀ L h' m → News h₀ L h' ((G, oG) :: (C, oC) :: news) → @LT.lt Nat _ C G → (∀ q ∈ news, @LT.lt Nat _ q.1 C) → gs.bare = true →
    GenIs PySem.Challenge.rw_st0018_01.row.prog w (ktrTop dp un gd cn cs L a ccd cl outer) h₀ (infOf f) sz (fun r _ => r = .ok (.ret .none)) G oG s.gens.size n [(C, oC), (l, W.listOf its.toArray k)] gs →
    Q (.ref G) { s with heap := h', toks := tk', gens := s.gens.push gs }) :
  wpAny (model PySem.Challenge.rw_st0018_01.row.prog w) (ktrTop dp un gd cn cs L a ccd cl outer) (call (.ref 69) [.ref l]) Q E s := by
  have h8 : f = 0 ∨ f = 1 ∨ f = 2 ∨ f = 3 ∨ f = 4 ∨ f = 5 ∨ f = 7 := by omega
  rcases h8 with rfl | rfl | rfl | rfl | rfl | rfl | rfl
  · exact tGroup0 B F X N T hk hd hu hl hi rfl hz2 hz6 hret
  · obtain rfl := hn rfl; exact tGroup1 B F X N T hk hd hu hl hi rfl hz2 hz6 hret
  · obtain rfl := hn rfl; exact tGroup2 B F X N T hk hd hu hl hi rfl hz2 hz6 hret
  · exact tGroup3 B F X N T hk hd hu hl hi rfl hz2 hz6 hret
  · obtain rfl := hn rfl; exact tGroup4 B F X N T hk hd hu hl hi rfl hz2 hz6 hret
  · obtain rfl := hn rfl; exact tGroup5 B F X N T hk hd hu hl hi rfl hz2 hz6 hret
  · obtain rfl := hn rfl; exact tGroup7 B F X N T hk hd hu hl hi rfl hz2 hz6 hret
section
variable {prog : Program} {A : Around} {s : Shared} {env : Env} {target : Expr} {body : List Stmt} {Q : Flow → Shared → Prop} {E : Value → Shared → Prop}
theorem grAt_mk {a : Addr} {oG : Obj} {g n : Nat} {own : List (Addr × Obj)} {gs : GenState} {inf : Bool} {sz : Int} {h : Heap} {tk : Nat} {G : Array GenState} {m₁ : Str → Option Value} {news₁ : List (Addr × Obj)} (J : Nat → (Str → Option Value) → List (Addr × Obj) → Prop)
    (hGen : GenIs prog w A h₀ inf sz (fun r _ => r = .ok (.ret .none)) a oG g (n + 1) own gs) (hgs : G[g]? = some gs) (hb : AllBare G) (F : Fr h₀ env.locals h m₁) (N : News h₀ env.locals h (news₁ ++ (a, oG) :: own)) (off : OwnOff ((a, oG) :: own) (news₁.map (·.1))) (hJ : J (n + 1) m₁ news₁)
    (turn : ∀ n t m₁ news₁ own h tk G, J (n + 1) m₁ news₁ → (n = 0 → inf = true) → AllBare G → OwnOff own (news₁.map (·.1)) → Fr h₀ env.locals h m₁ → News h₀ env.locals h (news₁ ++ own) →
        wpAny (model prog w) A (assign target env (.int sz t)) (fun _ s₂ => wpAny (model prog w) A (execs body env) (TurnEnd h₀ env.locals (fun m₂ news₂ => 1 ≤ n ∧ J n m₂ news₂) own { s with gens := G } Q) E s₂) E { s with heap := h, toks := tk, gens := G })
    (done : ∀ m₁ news₁ h tk G, J 1 m₁ news₁ → inf = false → AllBare G → Fr h₀ env.locals h m₁ → News h₀ env.locals h news₁ → Q .next { s with heap := h, toks := tk, gens := G }) :
    GrAt prog w A h₀ env target body Q E s (.ref a) { s with heap := h, toks := tk, gens := G } :=
  ⟨a, oG, g, n, own, gs, inf, sz, _, J, h, tk, G, m₁, news₁, rfl, rfl, hGen, hgs, hb, F, N, off, hJ, turn, done, fun r h tk m₁ news₁ G _ _ _ _ _ _ hf => .inl hf⟩
theorem For_grA {iter : Expr} {pos : Pos} {m : Str → Option Value} (F : Fr h₀ env.locals s.heap m) (ht : ∃ x p, target = .Name x p) (hh : A.handled = none) (hl : h₀.NoLimit) (hroom : A.depth < recursionLimit)
    (heval : wpAny (model prog w) A (eval iter env) (fun xv s₁ => Halt (GrAt prog w A h₀ env target body Q E s xv s₁)) E s)
    (hs : ∀ x, foldedSetIterable iter env x = pure x := by intro _; rfl)
    (hE : PassesOwn (model prog w) A env E := by passes_own) :
    wpAny (model prog w) A (exec (.For target iter body [] pos) env) Q E s := For_gr F ht hh hl hroom heval hs hE
end
end Mine
end

section
open PySem PySem.W PyProof.Rows PySem.Calls
/-- the walker's notes of the text before are put away -/
theorem Mine.freshPgL {prog : Program} {w : World} {A : Around} {env : Env} {Q : Flow → Shared → Prop} {E : Value → Shared → Prop} {s : Shared} (h : Q .next s) : wpAny (model prog w) A (execs [] env) Q E s := by
  w_on
  w_top off
  k_with_none
  walk1
  exact h
end
section
open PySem PySem.W PyProof.Rows PySem.Calls
set_option maxRecDepth 100000
set_option linter.all false
namespace Mine
def PageAt (x nn d : Nat) (y : Str) : Prop := y.cps.toList = pgE [13, 10] d (List.range nn) ∨ (d = 0 ∧ y.cps.toList = pgE (eolOf x) 0 (List.range nn))
theorem pgE_len (e : List Nat) (d : Nat) : ∀ ks : List Nat, (∀ k ∈ ks, k < 10) → (pgE e d ks).length ≤ e.length + ks.length * (13 + d + e.length)
  | [], _ => by simp [pgE]
  | k :: ks, h => by
    have ih := pgE_len e d ks fun k' h' => h k' (.tail _ h')
    have hk := h k (.head _)
    rw [pgE]
    simp only [List.length_append, List.length_replicate, List.length_cons]
    rw [Nat.succ_mul]
    omega
theorem eol_len (x : Nat) : (eolOf x).length ≤ 2 := by
  match x with
  | 0 => decide
  | 1 => decide
  | n + 2 => exact Nat.le_refl 2
theorem PageAt.short {x nn d : Nat} {y : Str} (h : PageAt x nn d y) (hd : d ≤ 100) (hn : nn ≤ 10) : y.cps.size ≤ 2 ^ 16 := by
  have hk : ∀ k ∈ List.range nn, k < 10 := fun k hk => by have := List.mem_range.mp hk; omega
  have key : ∀ e : List Nat, e.length ≤ 2 → ∀ d : Nat, d ≤ 100 → (pgE e d (List.range nn)).length ≤ 2 ^ 16 := fun e he d hd => by
    have := pgE_len e d _ hk
    rw [List.length_range] at this
    have h2 : nn * (13 + d + e.length) ≤ 10 * 115 := Nat.mul_le_mul hn (by omega)
    omega
  rw [← Array.length_toList]
  rcases h with h | ⟨rfl, h⟩
  · rw [h]; exact key _ (by decide) d hd
  · rw [h]; exact key _ (eol_len x) 0 (by omega)
theorem PageAt.step {x nn d : Nat} {y : Str} (h : PageAt x nn d y) : PageAt x nn (d + 1) ⟨(qd y.cps.toList).toArray⟩ := by
  refine .inl ?_
  show qd y.cps.toList = _
  rcases h with h | ⟨rfl, h⟩
  · rw [h]; exact qd_pg d _
  · rw [h]; exact qd_ends x 0 _
theorem PageAt.page {x nn d : Nat} {y : Str} (h : PageAt x nn d y) (hd : d ≠ 0) : y = pageS (rowsAt nn d) := by
  rcases h with h | ⟨h0, _⟩
  · exact page_is h
  · exact absurd h0 hd
theorem small_sz {sz : Nat} (h : sz ≤ 20) : Builtin.Range.small 0 (sz : Int) 1 = true ∧ Builtin.Range.rangeSize 0 (sz : Int) 1 = (sz : Int) := by
  have : ∀ k : Fin 21, Builtin.Range.small 0 ((k.val : Nat) : Int) 1 = true ∧ Builtin.Range.rangeSize 0 ((k.val : Nat) : Int) 1 = ((k.val : Nat) : Int) := by decide +kernel
  exact this ⟨sz, by omega⟩
theorem idx_last {n : Nat} (h : 4 ≤ n) : Builtin.Str.strSliceIndices (some (-4)) none 1 n = Builtin.Str.strSliceIndices (some ((n : Int) - 4)) none 1 n := by
  have h1 : (-4 : Int) < 0 := by decide
  have h2 : ¬ ((n : Int) - 4 < 0) := by omega
  have h3 : (1 : Int) > 0 := by decide
  have e : (-4 : Int) + n = (n : Int) - 4 := by omega
  simp only [Builtin.Str.strSliceIndices, h1, h2, h3, if_true, if_false, e]
theorem slice_last4 {x : Str} {A : List Nat} (h : x.cps.toList = A ++ [13, 10, 13, 10]) : Txt.slice x (some (-4)) none = ⟨#[13, 10, 13, 10]⟩ := by
  have hl : x.length = A.length + 4 := by
    show x.cps.size = _
    rw [← Array.length_toList, h]; simp
  have e : Txt.slice x (some (-4)) none = Txt.slice x (some ((x.length : Int) - 4)) none := by
    unfold Txt.slice
    rw [idx_last (by omega)]
  rw [e, PyProof.Rows.slice_from_eq (b := x.length) (by omega) (by omega) rfl]
  have e1 : ((x.length : Int) - 4).toNat = A.length := by omega
  have e2 : ((x.length : Int) - ((x.length : Int) - 4)).toNat = 4 := by omega
  rw [e1, e2, h, List.drop_left]
  rfl
theorem pgE_end (e : List Nat) (d : Nat) : ∀ (ks : List Nat), ks ≠ [] → ∃ A, pgE e d ks = A ++ (e ++ e)
  | [], h => absurd rfl h
  | [k], _ => ⟨List.replicate (k + 1 + d) 46 ++ [58, 32, 97 + k], by simp [pgE]⟩
  | k :: k' :: ks, _ => by
    obtain ⟨A, h⟩ := pgE_end e d (k' :: ks) (by simp)
    refine ⟨List.replicate (k + 1 + d) 46 ++ 58 :: 32 :: (97 + k) :: (e ++ A), ?_⟩
    rw [pgE, h]
    simp
theorem last_page {n d : Nat} (hn : 1 ≤ n) : Txt.slice (pageS (rowsAt n d)) (some (-4)) none = ⟨#[13, 10, 13, 10]⟩ := by
  obtain ⟨A, h⟩ := pgE_end [13, 10] d (List.range n) (by
    intro e
    have := congrArg List.length e
    rw [List.length_range] at this
    simp at this
    omega)
  refine slice_last4 (A := A) ?_
  have := pg_eq n d
  unfold pg at this
  rw [this, h]
  rfl
def capTot (f sz n : Nat) : Nat := if infOf f then (n - 1) / sz + 1 else capOf f
theorem joinG_len (G : List (Nat × Nat)) (i j : Nat) : (joinG G i j).length ≤ G.length + 1 := by
  unfold joinG
  split
  · simp
  · split <;> simp
theorem fold_len (n o : Nat) : ∀ (ks : List Nat) (G : List (Nat × Nat)), (ks.foldl (fun G k => if k + 1 + o ≤ n then joinG G k (k + o) else G) G).length ≤ G.length + ks.length
  | [], G => by simp
  | k :: ks, G => by
    rw [List.foldl_cons]
    have ih := fold_len n o ks (if k + 1 + o ≤ n then joinG G k (k + o) else G)
    have : (if k + 1 + o ≤ n then joinG G k (k + o) else G).length ≤ G.length + 1 := by
      split
      · exact joinG_len _ _ _
      · omega
    rw [List.length_cons]
    omega
theorem turnG_len {n o : Nat} {G : List (Nat × Nat)} (hn : n ≤ 10) : (turnG n o G).length ≤ G.length + 10 := by
  have := fold_len n o (List.range n) G
  rw [List.length_range] at this
  unfold turnG
  omega
structure LayNums (nn sz cap j : Nat) (G G' : List (Nat × Nat)) : Prop where
  off : j = 0 ∨ j * sz < nn
  len : G'.length ≤ G.length + 10 * j
  lay : layG nn sz cap 0 G = layG nn sz (cap - j) (j * sz) G'
theorem LayNums.start {nn sz cap : Nat} {G : List (Nat × Nat)} : LayNums nn sz cap 0 G G := ⟨.inl rfl, by omega, by rw [Nat.zero_mul]; rfl⟩
theorem many_at {nn sz j : Nat} (hz : 2 ≤ sz) (h1 : 1 ≤ nn) (a : j = 0 ∨ j * sz < nn) (b : nn < 1 + (j * sz + sz)) : (nn - 1) / sz + 1 = j + 1 := by
  have : (nn - 1) / sz = j := by
    have h2 : j * sz ≤ nn - 1 := by
      rcases a with a | a
      · rw [a, Nat.zero_mul]; exact Nat.zero_le _
      · omega
    have h3 : nn - 1 < (j + 1) * sz := by
      rw [Nat.succ_mul]
      generalize j * sz = q at *
      omega
    exact Nat.div_eq_of_lt_le h2 h3
  omega
theorem many_gt {nn sz j : Nat} (hz : 2 ≤ sz) (h1 : 1 ≤ nn) (b : j * sz + sz < nn) : j + 2 ≤ (nn - 1) / sz + 1 := by
  have h2 : (j + 1) * sz ≤ nn - 1 := by rw [Nat.succ_mul]; omega
  have := (Nat.le_div_iff_mul_le (by omega : 0 < sz)).mpr h2
  omega
theorem many_fdiv {nn sz : Nat} (h1 : 1 ≤ nn) : ((nn : Int) - 1).fdiv sz + 1 = (((nn - 1) / sz + 1 : Nat) : Int) := by
  have e0 : ((nn : Int) - 1) = ((nn - 1 : Nat) : Int) := by omega
  rw [e0, Int.fdiv_eq_ediv_of_nonneg _ (by omega)]
  rfl
/-- what is left to ask: more turns, or the break -/
theorem LayNums.more {nn sz cap j f n : Nat} {G G' : List (Nat × Nat)} (k : LayNums nn sz cap j G G') (hc : cap = capTot f sz nn) (hz : 2 ≤ sz) (h1 : 1 ≤ nn) (hj : j + (n + 1) = cap + 1) (hn0 : n = 0 → infOf f = true) : 1 ≤ n := by
  rcases Nat.eq_zero_or_pos n with h | h
  · exfalso
    have hi := hn0 h
    have ec : cap = (nn - 1) / sz + 1 := by rw [hc, capTot, hi]; rfl
    have h2 := Nat.div_add_mod (nn - 1) sz
    have h3 := Nat.mod_lt (nn - 1) (by omega : sz > 0)
    have ko := k.off
    clear hc k
    generalize (nn - 1) / sz = q at *
    have ej : j = q + 1 := by omega
    rcases ko with h0 | h0
    · omega
    · rw [ej, Nat.succ_mul, Nat.mul_comm] at h0
      omega
  · exact h
theorem manyOf_break {f sz nn cap j n : Nat} (hc : cap = capTot f sz nn) (hf8 : f < 8) (hf6 : f ≠ 6) (hz : 2 ≤ sz) (h1 : 1 ≤ nn) (hj : j + (n + 1) = cap + 1) (hn : 1 ≤ n) (a : j = 0 ∨ j * sz < nn) (b : nn < 1 + (j * sz + sz)) : (manyOf f sz nn).toNat = j + 1 := by
  have e := many_at hz h1 a b
  have e2 := many_fdiv (sz := sz) h1
  rw [e] at e2
  have h8 : f = 0 ∨ f = 1 ∨ f = 2 ∨ f = 3 ∨ f = 4 ∨ f = 5 ∨ f = 7 := by omega
  rcases h8 with rfl | rfl | rfl | rfl | rfl | rfl | rfl
  · show (((nn : Int) - 1).fdiv sz + 1).toNat = _; rw [e2]; rfl
  · have : cap = 1 := hc
    show (1 : Int).toNat = _; have : j = 0 := by omega
    rw [this]; rfl
  · have : cap = 1 := hc
    show (1 : Int).toNat = _; have : j = 0 := by omega
    rw [this]; rfl
  · show (((nn : Int) - 1).fdiv sz + 1).toNat = _; rw [e2]; rfl
  · have : cap = 2 := hc
    show (if ((nn : Int) - 1).fdiv sz + 1 < 2 then ((nn : Int) - 1).fdiv sz + 1 else 2 : Int).toNat = _
    rw [e2]
    split <;> omega
  · have : cap = 1 := hc
    show (1 : Int).toNat = _; have : j = 0 := by omega
    rw [this]; rfl
  · have : cap = 0 := hc
    omega
theorem manyOf_done {f sz nn cap j : Nat} (hc : cap = capTot f sz nn) (hf8 : f < 8) (hf6 : f ≠ 6) (hi : infOf f = false) (hz : 2 ≤ sz) (h1 : 1 ≤ nn) (hj : j + 1 = cap + 1) (a : j = 0 ∨ j * sz < nn) : (manyOf f sz nn).toNat = j := by
  have h8 : f = 0 ∨ f = 1 ∨ f = 2 ∨ f = 3 ∨ f = 4 ∨ f = 5 ∨ f = 7 := by omega
  rcases h8 with rfl | rfl | rfl | rfl | rfl | rfl | rfl
  · cases hi
  · have : cap = 1 := hc
    show (1 : Int).toNat = _; have : j = 1 := by omega
    rw [this]; rfl
  · have : cap = 1 := hc
    show (1 : Int).toNat = _; have : j = 1 := by omega
    rw [this]; rfl
  · cases hi
  · have : cap = 2 := hc
    have hj2 : j = 2 := by omega
    subst hj2
    have e2 := many_fdiv (sz := sz) h1
    have h2 := many_gt (j := 0) hz h1 (by omega)
    show (if ((nn : Int) - 1).fdiv sz + 1 < 2 then ((nn : Int) - 1).fdiv sz + 1 else 2 : Int).toNat = _
    rw [e2]
    split <;> omega
  · have : cap = 1 := hc
    show (1 : Int).toNat = _; have : j = 1 := by omega
    rw [this]; rfl
  · have : cap = 0 := hc
    show (0 : Int).toNat = _; have : j = 0 := by omega
    rw [this]; rfl
/-- the break's end -/
theorem LayNums.brk {nn sz cap j n : Nat} {G G' : List (Nat × Nat)} (k : LayNums nn sz cap j G G') (hj : j + (n + 1) = cap + 1) (hn : 1 ≤ n) (b : nn < 1 + (j * sz + sz)) : G' = layG nn sz cap 0 G := by
  rw [k.lay]
  obtain ⟨n', rfl⟩ : ∃ n', n = n' + 1 := ⟨n - 1, by omega⟩
  have e : cap - j = n' + 1 := by omega
  rw [e]
  show G' = if nn < 1 + (j * sz + sz) then G' else _
  rw [if_pos b]
theorem LayNums.next {nn sz cap j n : Nat} {G G' : List (Nat × Nat)} (k : LayNums nn sz cap j G G') (hn10 : nn ≤ 10) (hj : j + (n + 1) = cap + 1) (hn : 1 ≤ n) (b : ¬ nn < 1 + (j * sz + sz)) : LayNums nn sz cap (j + 1) G (turnG nn (j * sz + sz) G') := by
  refine ⟨.inr (by rw [Nat.succ_mul]; omega), ?_, ?_⟩
  · have := turnG_len (o := j * sz + sz) (G := G') hn10
    have := k.len
    omega
  · rw [k.lay]
    obtain ⟨n', rfl⟩ : ∃ n', n = n' + 1 := ⟨n - 1, by omega⟩
    have e : cap - j = n' + 1 := by omega
    have e2 : cap - (j + 1) = n' := by omega
    rw [e, e2, Nat.succ_mul]
    show (if nn < 1 + (j * sz + sz) then G' else _) = _
    rw [if_neg b]
theorem LayNums.fin {nn sz cap j : Nat} {G G' : List (Nat × Nat)} (k : LayNums nn sz cap j G G') (hj : j + 1 = cap + 1) : G' = layG nn sz cap 0 G := by
  rw [k.lay]
  have e : cap - j = 0 := by omega
  rw [e]; rfl
end Mine
end

section
open PySem PySem.W PyProof.Rows PySem.Calls
/-- the walker's notes of the text before are put away -/
theorem Mine.freshCr {prog : Program} {w : World} {A : Around} {env : Env} {Q : Flow → Shared → Prop} {E : Value → Shared → Prop} {s : Shared} (h : Q .next s) : wpAny (model prog w) A (execs [] env) Q E s := by
  w_on
  w_top off
  k_with_none
  walk1
  exact h
end
section
open PySem PySem.W PyProof.Rows PySem.Calls
set_option maxRecDepth 100000
set_option linter.all false
namespace Mine
section
variable {prog : Program} {w : World} {A : Around} {E : Value → Shared → Prop} {s : Shared} {env : Env} {h₀ : Heap} {L : Addr} {m : Str → Option Value} {news : List (Addr × Obj)}
/-- the same, its value stored -/
inductive CompSt (prog : Program) (w : World) (A : Around) (h₀ : Heap) (env : Env) (elt target : Expr) (scope : Scope) (cl : List (Str × Addr)) (y : Str) (Q : Flow → Shared → Prop) (s : Shared) (xv : Value) (s₁ : Shared) : Prop
  | mk (l : Addr) (its : List Value) (n : Nat) (h₁ : Heap) (tk₁ : Nat) (m : Str → Option Value) (news : List (Addr × Obj)) (R : EltRel) (Asg : Value → (Str → Option Value) → Prop) (x0 : xv = .ref l) (x1 : s₁ = { s with heap := h₁, toks := tk₁ }) (x2 : Fr h₀ env.locals h₁ m) (x3 : News h₀ env.locals h₁ news) (x4 : (l, W.listOf its.toArray n) ∈ news) (x5 : its.length ≤ 2 ^ 23) (x6 : R.Keeps) (x7 : (∀ C v (s₃ : Shared) mc (Q : Unit → Shared → Prop) (E : Value → Shared → Prop), v ∈ its → s₃.heap.Ns C mc → (∀ p ∈ news, s₃.heap.get? p.1 = some p.2) → (∀ h' tk mc', (∀ (b : Nat) (o : Obj), b ≠ C → s₃.heap.get? b = some o → h'.get? b = some o) → h'.Ns C mc' → Asg v mc' → Q () { s₃ with heap := h', toks := tk }) → wpAny (model prog w) A (assign target (compEnvC scope cl C env) v) Q E s₃)) (x8 : (∀ N₀ C v h tk mc (E : Value → Shared → Prop), v ∈ its → h.Ns C mc → Asg v mc → N₀ ≤ h.objs.size → Fr h₀ env.locals h m → News h₀ env.locals h news → wpAny (model prog w) A (eval elt (compEnvC scope cl C env)) (EltEnd s h fun h' y => R N₀ h' v y) E { s with heap := h, toks := tk })) (x9 : (∀ N₀ D h' tk ys k, Fr h₀ env.locals h' (fun z => if z = y then some (.ref D) else m z) → News h₀ env.locals h' ((D, W.listOf ys k) :: news) → (∀ p ∈ news, @LT.lt Nat _ p.1 D) → @LT.lt Nat _ env.locals D → Paired (R N₀ h') its ys.toList → @LT.lt Nat _ D N₀ → Q .next { s with heap := h', toks := tk })) : CompSt prog w A h₀ env elt target scope cl y Q s xv s₁
theorem compSt_mk {elt target : Expr} {scope : Scope} {cl : List (Str × Addr)} {y : Str} {Q : Flow → Shared → Prop} {l : Addr} {its : List Value} {n : Nat} {h₁ : Heap} {tk₁ : Nat} (R : EltRel) (Asg : Value → (Str → Option Value) → Prop)
    (F : Fr h₀ env.locals h₁ m) (N : News h₀ env.locals h₁ news) (hl : (l, W.listOf its.toArray n) ∈ news) (hlen : its.length ≤ 2 ^ 23) (hR : R.Keeps)
    (hasg : ∀ C v (s₃ : Shared) mc (Q : Unit → Shared → Prop) (E : Value → Shared → Prop), v ∈ its → s₃.heap.Ns C mc → (∀ p ∈ news, s₃.heap.get? p.1 = some p.2) →
      (∀ h' tk mc', (∀ (b : Nat) (o : Obj), b ≠ C → s₃.heap.get? b = some o → h'.get? b = some o) → h'.Ns C mc' → Asg v mc' → Q () { s₃ with heap := h', toks := tk }) → wpAny (model prog w) A (assign target (compEnvC scope cl C env) v) Q E s₃)
    (helt : ∀ N₀ C v h tk mc (E : Value → Shared → Prop), v ∈ its → h.Ns C mc → Asg v mc → N₀ ≤ h.objs.size → Fr h₀ env.locals h m → News h₀ env.locals h news →
      wpAny (model prog w) A (eval elt (compEnvC scope cl C env)) (EltEnd s h fun h' y => R N₀ h' v y) E { s with heap := h, toks := tk })
    (hQ : ∀ N₀ D h' tk ys k, Fr h₀ env.locals h' (fun z => if z = y then some (.ref D) else m z) → News h₀ env.locals h' ((D, W.listOf ys k) :: news) → (∀ p ∈ news, @LT.lt Nat _ p.1 D) → @LT.lt Nat _ env.locals D → Paired (R N₀ h') its ys.toList → @LT.lt Nat _ D N₀ → Q .next { s with heap := h', toks := tk }) :
    CompSt prog w A h₀ env elt target scope cl y Q s (.ref l) { s with heap := h₁, toks := tk₁ } := ⟨l, its, n, h₁, tk₁, m, news, R, Asg, rfl, rfl, F, N, hl, hlen, hR, hasg, helt, hQ⟩
theorem Assign_compF {elt target iter : Expr} {scope : Scope} {cl : List (Str × Addr)} {y : Str} {py pos spos : Pos} {Q : Flow → Shared → Prop} {h9 : Heap} (_F : Fr h₀ env.locals h9 m)
    (hsw : swapsWith (.ListComp elt [⟨target, iter, [], 0⟩] scope pos) (some (.Name y py)) spos.line env = pure true)
    (hh : A.handled = none) (hcell : ∀ y ∈ scope.names, y.2 ≠ .cell) (hkind : scope.kind = .function)
    (hgo : ∀ I l' i v (s : Shared) (Q : Unit → Shared → Prop) (E : Value → Shared → Prop), s.heap.IsListIter I l' i → Q () s → wpAny (model prog w) A (letOwnedTupleGo target (.ref I) v) Q E s)
    (hclos : closureFor scope env = pure cl) (hnames : ∀ x ∈ scope.names, x.2 = .local → scope.names.lookup x.1 = some .local)
    (hy : env.kindOf y = some .local) (hp : (env.scope.kind == .class || (env.scope.kind == .module && env.locals != env.globals)) = false)
    (heval : wpAny (model prog w) A (eval iter env) (fun xv s₁ => Halt (CompSt prog w A h₀ env elt target scope cl y Q s xv s₁)) E s)
    (hs : ∀ x, foldedSetIterable iter env x = pure x := by intro _; rfl) :
    wpAny (model prog w) A (exec (.Assign [.Name y py] (.ListComp elt [⟨target, iter, [], 0⟩] scope pos) spos) env) Q E s := by
  rw [exec_Assign_Name_used _ _ _ _ hsw]
  refine wpAny_bind (wpAny_standAt (wpAny_bind ?_))
  show wpAny _ A (do let _ ← comprehension (.ListComp elt [⟨target, iter, [], 0⟩] scope pos) scope env _ (newList []) false (eval iter env) (some (assign (.Name y py) env))) _ _ s
  refine wpAny_bind (wpAny_mono (wpAny_comprehension_free (use := some (assign (.Name y py) env)) (Q := fun _ s' => Q .next s') rfl hs hclos hkind hnames
    (wpAny_mono heval (fun xv s₁ h₁ => ?_) fun _ _ e => e)) (fun _ s' hq => wpAny_pure (wpAny_pure hq)) fun _ _ e => e)
  obtain ⟨l, its, n, h₁, tk₁, m, news, R, Asg, rfl, rfl, F₁, N₁, hl, hlen, hR, hasg, helt, hQ⟩ := h₁
  refine list_comp (s := { s with heap := h₁, toks := tk₁ }) F₁ N₁ hl hh hlen R hR Asg hcell hkind hgo hasg helt ?_
  intro N₀ D h' tk ys k C m' F' N' hlt hLD hF hDC hCN hn hC0
  have hLC : C ≠ env.locals := neN (by omega)
  show wpAny _ A (assign (.Name y py) env (.ref D)) _ _ _
  have hL0 : h₀.get? env.locals = none := by
    cases q : h₀.get? env.locals with
    | none => rfl
    | some o => exact absurd (Nat.lt_of_lt_of_le (Heap.lt_size q) F'.above) (Nat.lt_irrefl _)
  refine wpAny_assign_Name (wpAny_storeName_local hy F'.ns (fun h₂ hn₂ hs₂ => ?_) hp)
  have F₂ : Fr h₀ env.locals h₂ (fun z => if z = y then some (.ref D) else m z) := ⟨hn₂, fun b o e => (hs₂.2 b (fun q => by rw [q, hL0] at e; cases e)).trans (F'.keep b o e), F'.above⟩
  have N₂ : News h₀ env.locals h₂ ((D, W.listOf ys k) :: news) := fun p hp => ⟨(hs₂.2 _ (N' p hp).2.1).trans (N' p hp).1, (N' p hp).2⟩
  refine ⟨m', hn.at' fun o e => (hs₂.2 C hLC).trans e, fun h'' hs'' => ?_⟩
  refine hQ N₀ D h'' _ ys k (F₂.change hs'' hLC hC0) ?_ hlt hLD (Paired.mono' (fun v y r => hR N₀ h' h'' v y (fun b o hb e => (hs''.2 b (neN (by omega))).trans ((hs₂.2 b (neN (by omega))).trans e)) r) hF) (by omega)
  intro p hp
  have hpC : p.1 ≠ C := by
    rcases List.mem_cons.mp hp with rfl | hp
    · exact neN (by show @Ne Nat D C; omega)
    · have := hlt p hp
      exact neN (by omega)
  exact ⟨(hs''.2 _ hpC).trans (N₂ p hp).1, (N₂ p hp).2⟩
end
end Mine
end

section
open PySem PySem.W PyProof.Rows PySem.Calls
/-- the walker's notes of the text before are put away -/
theorem Mine.freshRw {prog : Program} {w : World} {A : Around} {env : Env} {Q : Flow → Shared → Prop} {E : Value → Shared → Prop} {s : Shared} (h : Q .next s) : wpAny (model prog w) A (execs [] env) Q E s := by
  w_on
  w_top off
  k_with_none
  walk1
  exact h
end
section
open PySem PySem.W PyProof.Rows PySem.Calls
set_option maxRecDepth 100000
set_option linter.all false
namespace Mine
/-- a row's cut: a fresh list of its parts -/
def CutR : EltRel := fun N₀ h v y => ∃ (a : Addr) (rt : List (Str × Tok)) (n : Nat) (z : Str) (tz : Tok), v = .str z tz ∧ y = .ref a ∧ N₀ ≤ a ∧ h.get? a = some (W.listOf (strValues rt).toArray n) ∧ rt.map (·.1) = Txt.split z (PySem.Str.ofString ": ")
theorem cutR_keeps : CutR.Keeps := by
  rintro N₀ h h' v y k ⟨a, rt, n, z, tz, h1, h2, h3, h4, h5⟩
  exact ⟨a, rt, n, z, tz, h1, h2, h3, k _ _ h3 h4, h5⟩
theorem rows_led {N₀ : Nat} {h' : Heap} : ∀ {its ys : List Value} {ps : List (Str × Str)} {rt : List (Str × Tok)}, its = strValues rt → rt.map (·.1) = ps.map rowS → (∀ p ∈ ps, Txt.split (rowS p) (PySem.Str.ofString ": ") = [p.1, p.2]) → Paired (CutR N₀ h') its ys →
    ∃ led : List (Addr × Obj), (∀ q ∈ led, N₀ ≤ q.1 ∧ h'.get? q.1 = some q.2) ∧ ys.length = ps.length ∧ ∀ (i : Nat) (v : Value), ys[i]? = some v → ∃ (a : Addr) (p : Str × Str) (t u : Tok) (n : Nat), ps[i]? = some p ∧ v = .ref a ∧ (a, W.listOf #[.str p.1 t, .str p.2 u] n) ∈ led
  | _, _, ps, rt, hits, hps, _, .nil => by
    have e1 : rt = [] := by cases rt with | nil => rfl | cons => cases hits
    subst e1
    have e2 : ps = [] := by cases ps with | nil => rfl | cons => cases hps
    subst e2
    exact ⟨[], (fun q h => by cases h), rfl, (fun i v hv => by simp at hv)⟩
  | _, _, ps, rt, hits, hps, hc, .cons h1 t => by
    cases rt with
    | nil => cases hits
    | cons r rt =>
      have hi2 := List.cons.inj hits
      cases ps with
      | nil => cases hps
      | cons p ps =>
        have hp2 := List.cons.inj hps
        obtain ⟨led, l1, l2, l3⟩ := rows_led hi2.2 hp2.2 (fun q hq => hc q (.tail _ hq)) t
        obtain ⟨a, rt2, n, z, tz, e1, e2, e3, e4, e5⟩ := h1
        rw [hi2.1] at e1
        cases e1
        have ez : r.1 = rowS p := hp2.1
        rw [ez, hc p (.head _)] at e5
        obtain ⟨s1, s2, rfl⟩ : ∃ s1 s2 : Str × Tok, rt2 = [s1, s2] := by
          have hl := congrArg List.length e5
          cases rt2 with
          | nil => cases hl
          | cons s1 r1 =>
            cases r1 with
            | nil => cases hl
            | cons s2 r2 =>
              cases r2 with
              | nil => exact ⟨s1, s2, rfl⟩
              | cons s3 r3 => simp at hl
        have e6 : s1.1 = p.1 ∧ s2.1 = p.2 := by simpa using e5
        refine ⟨(a, W.listOf (strValues [s1, s2]).toArray n) :: led, fun q hq => ?_, by simp [l2], fun i v hv => ?_⟩
        · rcases List.mem_cons.mp hq with rfl | hq
          · exact ⟨e3, e4⟩
          · exact l1 q hq
        · cases i with
          | zero =>
            have : v = .ref a := by simpa [e2] using hv.symm
            refine ⟨a, p, s1.2, s2.2, n, rfl, this, ?_⟩
            rw [← e6.1, ← e6.2]
            exact .head _
          | succ i =>
            obtain ⟨a', p', t', u', n', g1, g2, g3⟩ := l3 i v (by simpa using hv)
            exact ⟨a', p', t', u', n', by simpa using g1, g2, .tail _ g3⟩
theorem rowsAt_get {n d i : Nat} {p : Str × Str} (h : (rowsAt n d)[i]? = some p) : i < n ∧ p = (dotS (i + 1 + d), ltr i) := by
  unfold rowsAt at h
  rw [List.getElem?_map] at h
  cases e : (List.range n)[i]? with
  | none => rw [e] at h; cases h
  | some k =>
    rw [e] at h
    have hi : i < n := by
      have := (List.getElem?_eq_some_iff.mp e).1
      simpa using this
    have : k = i := by
      have := (List.getElem?_eq_some_iff.mp e).2
      simpa using this.symm
    subst this
    exact ⟨hi, by simpa using h.symm⟩
theorem rowsAt_cut {n d : Nat} : ∀ p ∈ rowsAt n d, Txt.split (rowS p) (PySem.Str.ofString ": ") = [p.1, p.2] := by
  intro p hp
  unfold rowsAt at hp
  obtain ⟨k, _, rfl⟩ := List.mem_map.mp hp
  exact split_row
theorem row_short {n d : Nat} {p : Str × Str} (hd : d ≤ 100) (hn : n ≤ 10) (hp : p ∈ rowsAt n d) : (rowS p).length ≤ 200 := by
  unfold rowsAt at hp
  obtain ⟨k, hk, rfl⟩ := List.mem_map.mp hp
  have hk' := List.mem_range.mp hk
  have e : (rowS (dotS (k + 1 + d), ltr k)).cps.toList.length = k + 1 + d + 3 := by
    show (dotS (k + 1 + d) ++ PySem.Str.ofString ": " ++ ltr k).cps.toList.length = _
    rw [Str.cps_append, Str.cps_append, Array.toList_append, Array.toList_append, show (PySem.Str.ofString ": ").cps.toList = [58, 32] from by decide +kernel]
    show (List.replicate (k + 1 + d) 46 ++ [58, 32] ++ [97 + k]).length = _
    simp
  rw [Array.length_toList] at e
  show Array.size _ ≤ 200
  omega
theorem dotS_len (m : Nat) : (dotS m).length = m := by
  show (List.replicate m 46).toArray.size = m
  simp
theorem find_dots_all : ((List.range 11).all fun n => (List.range 11).all fun m => !(decide (1 ≤ m ∧ m ≤ n)) || ((rowsAt n 0).find? (fun p => decide (Txt.lower p.1 = Txt.lower (dotS m))) == some (dotS m, ltr (m - 1)) && Txt.lower (dotS m) == dotS m)) = true := by decide +kernel
theorem find_dots {n m : Nat} (h1 : 1 ≤ m) (h2 : m ≤ n) (h3 : n ≤ 10) : (rowsAt n 0).find? (fun p => decide (Txt.lower p.1 = Txt.lower (dotS m))) = some (dotS m, ltr (m - 1)) ∧ Txt.lower (dotS m) = dotS m := by
  have := List.all_eq_true.mp (List.all_eq_true.mp find_dots_all n (List.mem_range.mpr (by omega))) m (List.mem_range.mpr (by omega))
  rw [decide_eq_true ⟨h1, h2⟩] at this
  simp only [Bool.not_true, Bool.false_or, Bool.and_eq_true, beq_iff_eq] at this
  exact this
theorem dots_in {n m : Nat} (h1 : 1 ≤ m) (h2 : m ≤ n) : (dotS m, ltr (m - 1)) ∈ rowsAt n 0 := by
  unfold rowsAt
  refine List.mem_map.mpr ⟨m - 1, List.mem_range.mpr (by omega), ?_⟩
  rw [show m - 1 + 1 + 0 = m by omega]
theorem ints_snoc : ∀ {vs : List Value} {ns : List Int} (n : Int) (t : Tok), IntsAre vs ns → IntsAre (vs ++ [Value.int n t]) (ns ++ [n])
  | _, _, n, t, .nil => .cons n t .nil
  | _, _, n, t, .cons a b h => .cons a b (ints_snoc n t h)
theorem ints_more {vs : List Value} {j : Nat} {n : Int} (t : Tok) (h : IntsAre vs (List.replicate j n)) : IntsAre (vs ++ [Value.int n t]) (List.replicate (j + 1) n) := by
  have := ints_snoc n t h
  rwa [← List.replicate_succ'] at this
theorem news_led {g h' : Heap} {L' D : Addr} {N₀ : Nat} {m : Str → Option Value} {news led big : List (Addr × Obj)} (F : Fr g L' h' m) (N : News g L' h' news) (l1 : ∀ q ∈ led, N₀ ≤ q.1 ∧ h'.get? q.1 = some q.2) (hLD : @LT.lt Nat _ L' D) (hDN : @LT.lt Nat _ D N₀) (hb : ∀ q ∈ big, q ∈ led ∨ q ∈ news) : News g L' h' big := by
  intro q hq
  rcases hb q hq with h | h
  · obtain ⟨a, b⟩ := l1 q h
    have a' : @LE.le Nat _ N₀ q.1 := a
    refine ⟨b, neN (by omega), ?_⟩
    cases e : g.get? q.1 with
    | none => rfl
    | some o =>
      have h1 : @LT.lt Nat _ q.1 g.objs.size := Heap.lt_size e
      have h2 : @LE.le Nat _ g.objs.size L' := F.above
      omega
  · exact N q h
/-- one turn's links, up to a row -/
def linksTo (n o : Nat) (G : List (Nat × Nat)) (i : Nat) : List (Nat × Nat) := (List.range i).foldl (fun G k => if k + 1 + o ≤ n then joinG G k (k + o) else G) G
theorem linksTo_succ (n o : Nat) (G : List (Nat × Nat)) (i : Nat) : linksTo n o G (i + 1) = if i + 1 + o ≤ n then joinG (linksTo n o G i) i (i + o) else linksTo n o G i := by
  unfold linksTo
  rw [List.range_succ, List.foldl_append]
  rfl
/-- the loop over the rows -/
inductive RowJ (nn sz o0 : Nat) (o ol : Addr) (u : Tok) (HD ll : Addr) (y : Str) (ty : Tok) (G' : List (Nat × Nat)) (itl' : List Value) (REST : List (Addr × Obj)) (i : Nat) (m₁ : Str → Option Value) (news₁ : List (Addr × Obj)) : Prop
  | mk (itl : List Value) (nl : Nat) (ex : List (Addr × Obj)) (x0 : m₁ "word" = some (.ref o)) (x1 : m₁ "links" = some (.ref ol)) (x2 : m₁ "n" = some (.int nn u)) (x3 : m₁ "heard" = some (.ref HD)) (x4 : m₁ "page" = some (.str y ty)) (x5 : news₁ = (ll, W.listOf itl.toArray nl) :: (ex ++ REST)) (x6 : (∀ e ∈ ex, @LT.lt Nat _ ll e.1 ∧ ∀ q ∈ REST, @LT.lt Nat _ q.1 e.1)) (x7 : (∀ base, RowsAre base itl' (lk G') → RowsAre (ex ++ base) itl (lk (linksTo nn o0 G' i)))) (x8 : Gok (linksTo nn o0 G' i)) : RowJ nn sz o0 o ol u HD ll y ty G' itl' REST i m₁ news₁
end Mine
end

section
open PySem PySem.W PyProof.Rows PySem.Calls
/-- the walker's notes of the text before are put away -/
theorem Mine.freshSpu {prog : Program} {w : World} {A : Around} {env : Env} {Q : Flow → Shared → Prop} {E : Value → Shared → Prop} {s : Shared} (h : Q .next s) : wpAny (model prog w) A (execs [] env) Q E s := by
  w_on
  w_top off
  k_with_none
  walk1
  exact h
end
section
open PySem PySem.W PyProof.Rows PySem.Calls
open PySem.Builtin PySem.Builtin.Str
set_option maxRecDepth 100000
set_option linter.all false
namespace Mine
section
variable {prog : Program} {w : World} {A : Around} {E : Value → Shared → Prop} {s : Shared} {x y : PySem.Str} {t u : Tok} {Q : Value → Shared → Prop}
theorem split_push (hy : (y.length == 0) = false)
    (h : ∀ (l : List (PySem.Str × Tok)) k, l.map (·.1) = Txt.split x y → Q (.ref s.heap.objs.size) { s with heap := s.heap.push { cls := .type "list", data := .seq (strValues l).toArray }, toks := k })
    (hsz : x.length + 2 ≤ sizeLine) :
    wpAny (model prog w) A (call (.builtin "str.split") [.str x t, .str y u]) Q E s := by
  have hn : (partsBetween x (occurrences x y 0 x.length (x.length + 1)) y.length).length ≤ sizeLine := by
    have e1 := StrLaws.occ_length_le x y 0 x.length (x.length + 1)
    rw [length_partsBetween]; omega
  cases h1 : (decide (x.length < y.length) || decide (_root_.PySem.Builtin.Str.strKind x < _root_.PySem.Builtin.Str.strKind y))
  · cases hf : (occurrences x y 0 x.length (x.length + 1)).isEmpty
    · refine call_meets F.slot_str_split (typeIs_str _ _ _) F.entry_str_split (F.args_str_split_2 _ _) (meets_str_split_sep x y t u h1 hy hf (by omega) hn) ?_
      show wants Q E _ { s with toks := _, heap := s.heap.push { cls := .type "list", data := .seq (strsFrom s.toks (partsBetween x (occurrences x y 0 x.length (x.length + 1)) y.length)).toArray } }
      rw [strsFrom_eq]
      exact h (numbered s.toks _) _ ((numbered_texts _ _).trans ((if_neg (ne_true_of_eq_false h1)).trans (if_neg (ne_true_of_eq_false hf))).symm)
    · exact call_meets F.slot_str_split (typeIs_str _ _ _) F.entry_str_split (F.args_str_split_2 _ _) (meets_str_split_not_found x y t u h1 hy hf)
        (h [(x, t)] s.toks ((if_neg (ne_true_of_eq_false h1)).trans (if_pos hf)).symm)
  · exact call_meets F.slot_str_split (typeIs_str _ _ _) F.entry_str_split (F.args_str_split_2 _ _) (meets_str_split_cannot_occur x y t u h1)
      (h [(x, t)] s.toks (if_pos h1).symm)
end
end Mine
end

section
open PySem PySem.W PyProof.Rows PySem.Calls
/-- the walker's notes of the text before are put away -/
theorem Mine.freshT6 {prog : Program} {w : World} {A : Around} {env : Env} {Q : Flow → Shared → Prop} {E : Value → Shared → Prop} {s : Shared} (h : Q .next s) : wpAny (model prog w) A (execs [] env) Q E s := by
  w_on
  w_top off
  k_with_none
  walk1
  exact h
end
section
open PySem PySem.W PySem.W.X PyProof.Rows PySem.Calls
set_option maxRecDepth 100000
set_option maxHeartbeats 8000000
set_option linter.all false
namespace Mine
variable {w : World} {p : Program} {loose : List Str} {mean : ExcName → Option Value} {mg mb : Str → Option Value}
  {dp un : Nat} {gd : Option (List Code)} {cn : Str} {cs : Scope} {a : Addr} {ccd : Value} {cl : List (Str × Addr)} {outer : List Env} {A₀ : Around} {base h₀ : Heap} {L : Addr} {m : Str → Option Value} {news : List (Addr × Obj)} {s : Shared} {Q E : Value → Shared → Prop}
theorem toldT6_1 : True := by
  k_with "k_mem" => (refine List.mem_cons_of_mem _ ?_; k_mem)
  trivial
theorem toldT6_2 : True := by
  k_with "ktr_units" => (have hcL9 := cLine_is; ((try simp only [units_under_make, units_in1, units_deeper, Around.mark_units, units_caller] at *); (try dsimp only [ktrTop] at *); omega))
  trivial

theorem over_func {A : Around} {b : List Stmt} {env : Env} : A.over (.func b env) [] = A.deeper env := by
  obtain ⟨hd, d, fr, gs, u⟩ := A
  cases fr <;> cases gs <;> rfl
section
variable {prog : Program} {w : World} {A : Around} {E : Value → Shared → Prop} {s : Shared}
theorem next_raise {α : Option Value → Shared → Prop} {a : Addr} {g : Nat} {oG : Obj} {nm qn : Value} {b : List Stmt} {env' : Env} {T : String} (hh : A.handled = none) (hl : s.heap.NoLimit) (hroom : A.depth < recursionLimit)
    (ho : s.heap.get? a = some oG) (e1 : oG.cls = .type "generator") (e2 : oG.data = .fields #[.int g 0, nm, qn]) (e3 : oG.slots = #[]) (hgs : s.gens[g]? = some (.fresh (.func b env')))
    (hsub : isSubtype (.type T) (.type "StopIteration") = pure false)
    (hb : wpAny (model prog w) (A.in1.deeper env') (execs b env') (fun _ _ => False) (fun x s' => wpAny (model prog w) (A.in1.deeper env') (leaving env' x) (fun _ s'' => s''.heap.get? a = some oG ∧ s''.TypeIs x T ∧ E x (s''.setGen g .finished)) (fun _ _ => False) s') (s.setGen g .running)) :
    wpAny (model prog w) A (pyNext (.ref a)) α E s := by
  have hg : s.heap.IsGen a g := ⟨oG, nm, qn, ho, e1, e2, e3⟩
  unfold pyNext
  refine wpAny_bind (wpAny_attempt (wpAny_callSpecial?_slot (name := Str.ofString "__next__") hg.typeIs slot_gen_next
    (wpAny_call_entry slot_gen_next hg.typeIs entry_gen_next ?_ (args_gen_next _))))
  show wpAny _ _ (Builtin.Generator.genWake (.ref a) (.send .none)) _ _ s
  unfold Builtin.Generator.genWake
  refine wpAny_bind (wpAny_holding (wpAny_genNumber hg (wpAny_bind (wpAny_genState hgs ?_))))
  refine wpAny_bind (wpAny_roomToWake hl hroom ?_)
  show wpAny _ _ (.resume g (.send .none) [] _) _ _ s
  refine wake_gr hgs (.inl ⟨rfl, rfl, rfl⟩) ?_
  refine sx_func (sx_wrap ?_)
  rw [over_func]
  refine wpAny_mono hb (fun _ _ h => h.elim) fun x s' h => ?_
  refine sx_wrap ?_
  rw [over_func]
  refine wpAny_mono h (fun _ s'' h2 => ?_) fun _ _ h => h.elim
  obtain ⟨hoG, hT, hE⟩ := h2
  refine sx_end (r := .error x) rfl fun _ => ?_
  show wpAny _ _ (Builtin.Generator.genLeft (.ref a) x) _ _ _
  unfold Builtin.Generator.genLeft Builtin.Generator.madeByALambda
  refine wpAny_bind (wpAny_bind (wpAny_load (o := oG) hoG (wpAny_pure ?_)))
  rw [e2]
  simp only [e1]
  refine wpAny_bind (wpAny_isInstance (b := false) hT hsub ?_)
  simp only [Bool.and_false, Bool.false_eq_true, if_false]
  unfold Builtin.Generator.genEscaped
  refine wpAny_bind (wpAny_isInstance (b := false) hT hsub ?_)
  simp only [Bool.not_false, if_true]
  refine wpAny_throw ?_
  refine wpAny_bind (wpAny_isInstance (b := false) hT hsub ?_)
  exact wpAny_throw hE
/-- a loop over a generator whose first run raises -/
def RaAt (prog : Program) (w : World) (A : Around) (T : String) (E : Value → Shared → Prop) (xv : Value) (s : Shared) : Prop :=
  ∃ (a : Addr) (g : Nat) (oG : Obj) (nm qn : Value) (b : List Stmt) (env' : Env), xv = .ref a ∧ s.heap.NoLimit ∧ s.heap.get? a = some oG ∧ oG.cls = .type "generator" ∧ oG.data = .fields #[.int g 0, nm, qn] ∧ oG.slots = #[] ∧ s.gens[g]? = some (.fresh (.func b env')) ∧
    ∀ E' : Value → Shared → Prop, (∀ x s, E x s → E' x s) → wpAny (model prog w) (A.in1.deeper env') (execs b env') (fun _ _ => False) (fun x s' => wpAny (model prog w) (A.in1.deeper env') (leaving env' x) (fun _ s'' => s''.heap.get? a = some oG ∧ s''.TypeIs x T ∧ E' x (s''.setGen g .finished)) (fun _ _ => False) s') (s.setGen g .running)
theorem raAt_mk {A : Around} {T : String} {E : Value → Shared → Prop} {s : Shared} {a : Addr} {g : Nat} {oG : Obj} {nm qn : Value} {b : List Stmt} {env' : Env} (hl : s.heap.NoLimit) (ho : s.heap.get? a = some oG) (e1 : oG.cls = .type "generator") (e2 : oG.data = .fields #[.int g 0, nm, qn]) (e3 : oG.slots = #[]) (hgs : s.gens[g]? = some (.fresh (.func b env')))
    (run : ∀ E' : Value → Shared → Prop, (∀ x s, E x s → E' x s) → wpAny (model prog w) (A.in1.deeper env') (execs b env') (fun _ _ => False) (fun x s' => wpAny (model prog w) (A.in1.deeper env') (leaving env' x) (fun _ s'' => s''.heap.get? a = some oG ∧ s''.TypeIs x T ∧ E' x (s''.setGen g .finished)) (fun _ _ => False) s') (s.setGen g .running)) :
    RaAt prog w A T E (.ref a) s := ⟨a, g, oG, nm, qn, b, env', rfl, hl, ho, e1, e2, e3, hgs, run⟩
theorem raised_get {base G h : Heap} {l : List Env} {e : Addr} {cls : Value} {news : List (Addr × Obj)} {q : Addr × Obj} (R : RaisedSN base G l e cls news h) (hq : q ∈ news) : h.get? q.1 = some q.2 := by
  obtain ⟨B9, a0, _, _, hn, hfl⟩ := R
  exact hfl.1 _ _ (hn _ hq).1
theorem raised_type {base G h : Heap} {l : List Env} {e : Addr} {T : String} {news : List (Addr × Obj)} {s : Shared} (R : RaisedSN base G l e (.type T) news h) (hs : s.heap = h) : s.TypeIs (.ref e) T := by
  obtain ⟨B9, a0, _, _, hn, hfl⟩ := R
  obtain ⟨oe, vs, he, hc, _⟩ := hfl.first
  exact ⟨oe, by rw [hs]; exact he, hc⟩
theorem For_raise {env : Env} {target iter : Expr} {body : List Stmt} {pos : Pos} {T : String} {Q : Flow → Shared → Prop} (hh : A.handled = none) (hroom : A.depth < recursionLimit) (hsub : isSubtype (.type T) (.type "StopIteration") = pure false)
    (heval : wpAny (model prog w) A (eval iter env) (fun xv s₁ => Halt (RaAt prog w A T E xv s₁)) E s)
    (hs : ∀ x, foldedSetIterable iter env x = pure x := by intro _; rfl)
    (hE : PassesOwn (model prog w) A env E := by passes_own) :
    wpAny (model prog w) A (exec (.For target iter body [] pos) env) Q E s := by
  refine wpAny_For (wpAny_mono heval (fun xv s₁ h₁ => ?_) fun _ _ e => e) hs
  obtain ⟨a, g, oG, nm, qn, b, env', rfl, hl, ho, e1, e2, e3, hgs, hb⟩ := h₁
  refine wpAny_pyIter_gen (g := g) ⟨oG, nm, qn, ho, e1, e2, e3⟩ ?_
  refine codeAny_forLoop_any (fun k s' => s' = s₁) ?_ 0 rfl
  rintro k s' rfl
  exact next_raise hh hl hroom ho e1 e2 e3 hgs hsub (hb _ fun x s h => hE _ _ h)
end
section
variable {prog : Program} {w : World} {A : Around} {s : Shared} {h₀ : Heap} {L : Addr} {m : Str → Option Value} {news : List (Addr × Obj)} {K : Frag} {p : Program} {loose : List Str} {mean : ExcName → Option Value} {mg mb : Str → Option Value}
/-- a generator made: all that was stays -/
theorem call_gen2 {R : Result → Shared → Prop} {name qual : Str} {params : Arguments} {body : List Stmt} {scope : Scope} {dV kV doc pm cdv ct oc : Value} {an od : Option Addr} {osl : Array (Option Value)} {f : Addr} {args : Args} {binds : List (Str × Value)}
    (F : Fr h₀ L s.heap m) (X₀ : K.In h₀) (T : Top p loose mean mg mb h₀)
    (ho : K.lookup f = some ⟨oc, od, .func (fnOf name qual params body scope dV kV doc pm an cdv ct), osl⟩) (hcd : codeIn K cdv qual = true) (hroom : A.depth < recursionLimit)
    (hbind : BindsTo s (fnOf name qual params body scope dV kV doc pm an cdv ct) args binds) (hloc : ∀ y ∈ binds, scope.names.lookup y.1 = some .local)
    (h : ∀ G oG oC h' tk' nm qn, (∀ (b : Nat) (o : Obj), s.heap.get? b = some o → h'.get? b = some o) → @LT.lt Nat _ s.heap.objs.size G → h'.get? s.heap.objs.size = some oC → h'.get? G = some oG → LCg.NsObj oC (fun y => binds.reverse.lookup y) →
      oG.cls = .type "generator" → oG.data = .fields #[.int s.gens.size 0, nm, qn] → oG.slots = #[] →
      R (.ok (.ret (.ref G))) { s with heap := h', toks := tk', gens := s.gens.push (.fresh (.func body (envOf qual scope s.heap.objs.size f cdv))) })
    (hco : scope.isCoroutine = false) (hgen : scope.isGenerator = true) (hk : scope.kind = .function)
    (hcell : ∀ x ∈ scope.names, x.2 ≠ .cell) : codeAny (model prog w) A (.call (.ref f) args) R s := by
  have X := X₀.keeps F.keep
  refine codeAny_call_generator (fd := fnOf name qual params body scope dV kV doc pm an cdv ct) (body := body) hroom (X _ _ ho) rfl hco hgen rfl (codeRec_of X hcd) (hbind _ _ _ _ ?_)
  refine wpAny_newFunctionEnv hcell hloc (fun h₁ hns hsb => ?_) hk
  have old : ∀ (b : Nat) (o : Obj), s.heap.get? b = some o → h₁.get? b = some o := fun b o e => hsb.extBut b o (Nat.ne_of_lt (Heap.lt_size e)) (Heap.get?_push_of_some _ e)
  refine ⟨(T.nolimit.keeps F.keep).keeps old, ?_⟩
  obtain ⟨oC, hC, hCo⟩ := LCg.ns_obj hns
  have hCG : @LT.lt Nat _ s.heap.objs.size h₁.objs.size := Heap.lt_size hC
  exact h h₁.objs.size { cls := .type "generator", data := .fields #[.int s.gens.size 0, .str name (s.toks + binds.length), .str qual (s.toks + binds.length + 1)] } oC _ _ _ _ (fun b o e => Heap.get?_push_of_some _ (old b o e)) hCG (Heap.get?_push_of_some _ hC) (Heap.get?_push_size _ rfl) hCo rfl rfl rfl
end
section
variable {prog : Program} {w : World} {A₀ A : Around} {s : Shared} {base h₀ : Heap} {env : Env} {L : Addr} {m : Str → Option Value} {news : List (Addr × Obj)} {K : Frag} {p : Program} {loose : List Str} {mean : ExcName → Option Value} {mg mb : Str → Option Value}
/-- a def is entered whose caller's slots may turn -/
theorem code_defX {R : Result → Shared → Prop} {name qual : Str} {params : Arguments} {body : List Stmt} {scope : Scope} {dV kV doc pm cdv ct oc : Value} {an od : Option Addr} {osl : Array (Option Value)} {f : Addr} {args : Args} {binds : List (Str × Value)}
    (B : Below A₀ base [] h₀) (F : Fr h₀ L s.heap m) (X₀ : K.In h₀) (N : News h₀ L s.heap news) (T : Top p loose mean mg mb h₀) (hA : A.frames = some [env]) (hf : env.frame = some L) (hke : env.scope.kind = .function)
    (ho : K.lookup f = some ⟨oc, od, .func (fnOf name qual params body scope dV kV doc pm an cdv ct), osl⟩) (hcd : codeIn K cdv qual = true) (hroom : A.depth < recursionLimit)
    (hbind : BindsTo s (fnOf name qual params body scope dV kV doc pm an cdv ct) args binds) (hloc : ∀ y ∈ binds, scope.names.lookup y.1 = some .local)
    (h : ∀ g L' h₁, Fr h₀ L g m → Fr g L' h₁ (fun y => binds.reverse.lookup y) → News g L' h₁ news → Below A base [env] g → K.In g → Top p loose mean mg mb g → KtsDicts ([env].filterMap (·.frame)) g →
      wpAny (model prog w) (A.deeper (envOf qual scope L' f cdv)) (execs body (envOf qual scope L' f cdv))
        (fun fl s' => LeaveS0 ([env].filterMap (·.frame)) h₀ L m g R (match fl with | .ret v => v | _ => .none) s')
        (fun e s' => wpAny (model prog w) (A.deeper (envOf qual scope L' f cdv)) (leaving (envOf qual scope L' f cdv) e) (fun _ s'' => R (.error e) s'') (fun e' s'' => R (.error e') s'') s')
        { s with heap := h₁, toks := s.toks + binds.length })
    (hco : scope.isCoroutine = false) (hgen : scope.isGenerator = false) (hk : scope.kind = .function)
    (hcell : ∀ x ∈ scope.names, x.2 ≠ .cell) : codeAny (model prog w) A (.call (.ref f) args) R s := by
  obtain ⟨FG, BG, st, _⟩ := groundX (R := R) B F N hA hf hke
  have fsL : [env].filterMap (·.frame) = [L] := by simp [hf]
  obtain ⟨oL, es, ep, hLg, hLd, hLk, hLf⟩ := id FG.ns
  refine codeAny_call_def (fd := fnOf name qual params body scope dV kV doc pm an cdv ct) (body := body) (binds := binds) hroom ((X₀.keeps F.keep) _ _ ho) rfl (T.nolimit.keeps F.keep) (codeRec_of (X₀.keeps F.keep) hcd) rfl hbind hcell hloc (fun h₁ hns hk₁ => ?_) hco hgen hk
  have F₁ : Fr (hideAll s.heap (news.map (·.1))) s.heap.objs.size h₁ (fun y => binds.reverse.lookup y) := ⟨hns, fun b o e => hk₁ b o (of_hideAll _ e), Nat.le_of_eq (hideAll_size _ _)⟩
  have N₁ : News (hideAll s.heap (news.map (·.1))) s.heap.objs.size h₁ news := fun q hq => ⟨hk₁ _ _ (N q hq).1, Nat.ne_of_lt (Heap.lt_size (N q hq).1), hideAll_none _ (List.mem_map_of_mem hq)⟩
  refine wpAny_mono (h _ _ h₁ FG F₁ N₁ BG (X₀.keeps st) (T.keeps st) ?hD) (fun fl s' hl => ?_) fun _ _ y => y
  case hD =>
    intro b hb
    rw [fsL] at hb
    rw [List.mem_singleton.mp hb]
    exact ⟨oL, es, ep, hLg, hLd⟩
  obtain ⟨g', L', m', news', T', F', N', k⟩ := hl
  rw [fsL] at T'
  obtain ⟨sl, hs⟩ := T'.up hLg
  have off : ∀ (b : Nat) (o : Obj), h₀.get? b = some o → b ∉ [L] := fun b o e hb => by
    rw [List.mem_singleton.mp hb, kts_self F] at e
    cases e
  refine k ⟨⟨_, es, ep, F'.keep _ _ hs, hLd, hLk, hLf⟩, fun b o e => F'.keep b o (T'.other b o (st b o e) (off b o e)), F.above⟩ fun q hq => ⟨(N' q hq).1, fun e => ?_, ?_⟩
  · have := (N' q hq).2.2
    rw [e, hs] at this
    cases this
  · cases e : h₀.get? q.1 with
    | none => rfl
    | some o =>
      have := (N' q hq).2.2
      rw [T'.other _ _ (st _ _ e) (off _ _ e)] at this
      cases this
end
theorem toldT6_3 : True := by
  k_with "cell_enter" => (refine' call_gen2 ?k2 ?kK ?k5 ?k6 ?k7 ?k8 ?k9 ?kB ?_ ?c1 ?c2 ?c3 ?c5; (case kK => assumption); (case k2 => k_asm); (case k5 => k_asm); (case k6 => k_is); (case k7 => k_is); (case k8 => ktr_room); (case k9 => first | exact BindsTo.of_eq rfl | exact binds_K (by k_in) rfl (by k_is) rfl rfl rfl); (case kB => exact locs rfl); (case c1 => exact rfl); (case c2 => exact rfl); (case c3 => exact rfl); (case c5 => decide); k_whole)
  trivial
theorem toldT6_4 : True := by
  k_with "leaving ref" => (refine halt ?_)
  trivial
theorem toldT6_5 : True := by
  k_with "exec For Name Name cons nil" => (refine halt ?_)
  trivial
theorem tGroup6 {l : Addr} {its : List Value} {k f sz : Nat} (B : Below A₀ base outer h₀) (F : Fr h₀ L s.heap m) (X : (Mine.hd.heap_39 w.params).In h₀) (N : News h₀ L s.heap news) (T : Top p loose mean mg mb h₀) (hk : cs.kind = .function)
  (hd : dp + 1 < recursionLimit) (hu : un + 8 < cLine) (hl : (l, W.listOf its.toArray k) ∈ news) (hi : IntsAre its (rulerOf f sz)) (hf : f = 6) (hcl : cl = [])
  (hret : ∀ G oG gG h' tk' nm qn b env', Fr h₀ L h' m → News h₀ L h' ((G, oG) :: news) → Fr h₀ L gG m → Below A₀ base outer h₀ → (∀ q ∈ news, gG.get? q.1 = none) → gG.get? G = none →
    oG.cls = .type "generator" → oG.data = .fields #[.int s.gens.size 0, nm, qn] → oG.slots = #[] →
    (∀ (s₁ : Shared) (E' : Value → Shared → Prop), s₁.heap = h' →
      (∀ e h'' tk, RaisedSN base gG (envOf cn cs L a ccd :: outer) e (.type "ValueError") ((G, oG) :: news) h'' → gG.UpToSlots h'' → E' (.ref e) { s₁ with heap := h'', toks := tk }) →
      wpAny (model PySem.Challenge.rw_st0018_01.row.prog w) ((ktrTop dp un gd cn cs L a ccd cl outer).in1.deeper env') (execs b env') (fun _ _ => False) (fun x s' => wpAny (model PySem.Challenge.rw_st0018_01.row.prog w) ((ktrTop dp un gd cn cs L a ccd cl outer).in1.deeper env') (leaving env' x) (fun _ s'' => E' x s'') (fun _ _ => False) s') s₁) →
    Q (.ref G) { s with heap := h', toks := tk', gens := s.gens.push (.fresh (.func b env')) }) :
  wpAny (model PySem.Challenge.rw_st0018_01.row.prog w) (ktrTop dp un gd cn cs L a ccd cl outer) (call (.ref 69) [.ref l]) Q E s := by
  subst hcl
  revert X
  k_fill
  intro X
  obtain ⟨oL, es, ep, hLg, hLd, hN, hNs, st, BG⟩ := kts_enter (A := (ktrTop dp un gd cn cs L a ccd [] outer).in1) B F N rfl hk
  refine wpAny_call ?_
  k_dflt cell_enter
  intro G oG oC h' tk' nm qn old hCG hC hG hoC e1 e2 e3
  try dsimp only
  try k_fold
  have hnC : ∀ q ∈ news, @LT.lt Nat _ q.1 s.heap.objs.size := fun q hq => Heap.lt_size (N q hq).1
  have hLs : @LT.lt Nat _ L s.heap.objs.size := by
    obtain ⟨o, _, _, e, _⟩ := id F.ns
    exact Heap.lt_size e
  have FGG : Fr h₀ L (hideAll s.heap (news.map (·.1))) m := ⟨hN _ hLg, st, F.above⟩
  have none_of : ∀ b : Nat, s.heap.objs.size ≤ b → h₀.get? b = none := fun b hb => by
    cases q : h₀.get? b with
    | none => rfl
    | some o =>
      have : @LT.lt Nat _ b s.heap.objs.size := Heap.lt_size (F.keep b o q)
      omega
  have none_g : ∀ b : Nat, s.heap.objs.size ≤ b → (hideAll s.heap (news.map (·.1))).get? b = none := fun b hb => by
    cases q : (hideAll s.heap (news.map (·.1))).get? b with
    | none => rfl
    | some o =>
      have : @LT.lt Nat _ b s.heap.objs.size := Heap.lt_size (of_hideAll _ q)
      omega
  refine hret G oG (hideAll s.heap (news.map (·.1))) _ _ nm qn _ _ ⟨F.ns.keeps old, fun b o e => old b o (F.keep b o e), F.above⟩ ?hN' FGG B (fun q hq => hideAll_none _ (List.mem_map_of_mem hq)) (none_g _ (Nat.le_of_lt hCG)) e1 e2 e3 ?hrun
  case hN' =>
    intro q hq
    rcases List.mem_cons.mp hq with rfl | hq
    · exact ⟨hG, neN (by show @Ne Nat G L; omega), none_of _ (Nat.le_of_lt hCG)⟩
    · exact ⟨old _ _ (N q hq).1, (N q hq).2⟩
  intro s₁ E' hs₁ hE'
  have F1 : Fr (hideAll s.heap (news.map (·.1))) s.heap.objs.size s₁.heap _ := ⟨hoC.ns (by rw [hs₁]; exact hC), fun b o e => by rw [hs₁]; exact old b o (of_hideAll _ e), Nat.le_of_eq (hideAll_size _ _)⟩
  have N1 : News (hideAll s.heap (news.map (·.1))) s.heap.objs.size s₁.heap ((G, oG) :: news) := fun q hq => by
    rw [hs₁]
    rcases List.mem_cons.mp hq with rfl | hq
    · exact ⟨hG, neN (by show @Ne Nat G s.heap.objs.size; omega), none_g _ (Nat.le_of_lt hCG)⟩
    · exact ⟨old _ _ (N q hq).1, neN (by have := hnC q hq; omega), hideAll_none _ (List.mem_map_of_mem hq)⟩
  have X1 := X.keeps st
  have T1 := T.keeps st
  clear F N X T st hN hNs hC hG old B hs₁
  generalize hideAll s.heap (news.map (·.1)) = gG at *
  generalize s.heap.objs.size = C at *
  have hlm : (l, W.listOf its.toArray k) ∈ (G, oG) :: news := .tail _ hl
  k_steps
  unfold Halt
  with_reducible (rename Fr _ _ _ _ => F2)
  obtain ⟨tz, its2, hits⟩ : ∃ tz its2, its = .int 0 tz :: its2 := by
    subst hf
    have hi9 : IntsAre its [(0 : Int), (sz : Int)] := ‹IntsAre its (rulerOf 6 sz)›
    cases hi9 with
    | cons n t0 h => exact ⟨_, _, rfl⟩
  refine For_list F2 (l := l) (its := its) (fun i m₁ news₁ => i = 0 ∧ news₁ = (G, oG) :: news ∧ m₁ "last_interval" = some .none) rfl (fun I l' i v s Q E _ hQ => goN hQ) ?keep ?ev ?turn ?done
  case keep =>
    rintro i m₁ news₁ h₁ ⟨_, rfl, _⟩ _ N2
    exact ⟨_, (N2 _ hlm).1, rfl, _, rfl⟩
  case ev =>
    k_steps
    exact ⟨_, _, _, _, rfl, rfl, by k_asm, by k_asm, rfl, rfl, rfl⟩
  case done =>
    rintro m₁ news₁ h tk ⟨h0, _⟩
    rw [hits] at h0
    cases h0
  rintro i v m₁ news₁ own h tk hv ⟨rfl, rfl, e5⟩ hoff F3 N3
  rw [hits] at hv
  cases hv
  rw [known e5] at F3
  clear F2
  k_steps
  unfold Halt
  with_reducible (rename Fr _ _ _ _ => F4)
  with_reducible (rename News _ _ _ _ => N4)
  with_reducible (rename Heap.NewExc _ _ _ _ => hx)
  refine leave_newS BG hx F4 (cb_drop (news := (G, oG) :: news) N4 fun q hq => List.mem_append_left _ hq) (fun h9 R9 _ U9 => ?_) rfl
  exact hE' _ _ _ R9 U9
end Mine
end

section
open PySem PySem.W PyProof.Rows PySem.Calls
/-- the walker's notes of the text before are put away -/
theorem Mine.freshT6L {prog : Program} {w : World} {A : Around} {env : Env} {Q : Flow → Shared → Prop} {E : Value → Shared → Prop} {s : Shared} (h : Q .next s) : wpAny (model prog w) A (execs [] env) Q E s := by
  w_on
  w_top off
  k_with_none
  walk1
  exact h
end
section
open PySem PySem.W PySem.W.X PyProof.Rows PySem.Calls
set_option maxRecDepth 100000
set_option maxHeartbeats 8000000
set_option linter.all false
namespace Mine
variable {w : World} {p : Program} {loose : List Str} {mean : ExcName → Option Value} {mg mb : Str → Option Value}
  {dp un : Nat} {gd : Option (List Code)} {cn : Str} {cs : Scope} {a : Addr} {ccd : Value} {cl : List (Str × Addr)} {outer : List Env} {A₀ : Around} {base h₀ : Heap} {L : Addr} {m : Str → Option Value} {news : List (Addr × Obj)} {s : Shared} {Q E : Value → Shared → Prop}
theorem toldT6L_1 : True := by
  k_with "k_mem" => (refine List.mem_cons_of_mem _ ?_; k_mem)
  trivial
theorem toldT6L_2 : True := by
  k_with "ktr_units" => (have hcL9 := cLine_is; ((try simp only [units_under_make, units_in1, units_deeper, Around.mark_units, units_caller] at *); (try dsimp only [ktrTop] at *); omega))
  trivial
theorem toldT6L_3 : True := by
  k_with "call type:str" => (k_here; (with_reducible show wpAny _ _ (call (Value.type "str") [Value.ref _]) _ _ _); k_dflt (refine' kso_call ?k1 ?k2 ?k3 ?k4 ?k5 ?_; (case k1 => ktr_units); (case k2 => k_in); (case k3 => k_inst); (case k4 => k_is); (case k5 => k_is); k_whole))
  trivial

theorem led_strs {h₀ h : Heap} {L D : Addr} {a b c : Str} {t1 t2 t3 : Tok} {n : Nat} {rest : List (Addr × Obj)} (N : News h₀ L h ((D, W.listOf #[.str a t1, .str b t2, .str c t3] n) :: rest)) : ∃ u1 u2 u3, u1 = t1 ∧ u2 = t2 ∧ u3 = t3 := ⟨_, _, _, rfl, rfl, rfl⟩
theorem eol_at {x : Nat} (hx : x < 3) (u1 u2 u3 : Tok) : ∃ t9, (#[Value.str (PySem.Str.ofString "\n") u1, .str (PySem.Str.ofString "\r") u2, .str (PySem.Str.ofString "\r\n") u3] : Array Value)[((x : Int)).toNat]? = some (.str (eolS x) t9) ∧ (t9 = u1 ∨ t9 = u2 ∨ t9 = u3) := by
  have h3 : x = 0 ∨ x = 1 ∨ x = 2 := by omega
  have e0 : PySem.Str.ofString "\n" = eolS 0 := by decide +kernel
  have e1 : PySem.Str.ofString "\r" = eolS 1 := by decide +kernel
  have e2 : PySem.Str.ofString "\r\n" = eolS 2 := by decide +kernel
  rcases h3 with rfl | rfl | rfl
  · exact ⟨u1, by rw [e0]; rfl, .inl rfl⟩
  · exact ⟨u2, by rw [e1]; rfl, .inr (.inl rfl)⟩
  · exact ⟨u3, by rw [e2]; rfl, .inr (.inr rfl)⟩

theorem toldT6L_4 : True := by
  k_with "cell_enter" => (refine' code_defX ?k1 ?k2 ?k3 ?k4 ?k5 ?kA ?kF ?kK ?k6 ?k7 ?k8 ?k9 ?kB ?_ ?c2 ?c3 ?c4 ?c5; (case kA => exact rfl); (case kF => exact rfl); (case kK => assumption); (case k2 => k_asm); (case k1 => k_asm); (case k3 => k_asm); (case k4 => k_asm); (case k5 => k_asm); (case k6 => k_is); (case k7 => k_is); (case k8 => ktr_room); (case k9 => first | exact BindsTo.of_eq rfl | exact binds_K (by k_in) rfl (by k_is) rfl rfl rfl); (case kB => exact locs rfl); (case c2 => exact rfl); (case c3 => exact rfl); (case c4 => exact rfl); (case c5 => decide); k_whole; intro g' L' h' FG' F' N' B' X' T' D'; (try dsimp only); (try k_lift B'); (try k_fold))
  trivial
theorem toldT6L_5 : True := by
  k_with "call ref" => (k_here; (with_reducible show wpAny _ _ (call (Value.ref 178) _ _) _ _ _); k_dflt (refine' tStr ?k1 ?k2 ?k3 ?k4 ?k5 ?kK ?kd ?ku ?ko ?kl ?kr ?kp ?kn ?_; (case k1 => k_asm); (case k2 => k_asm); (case k3 => k_asm); (case k4 => k_asm); (case k5 => k_asm); (case kK => first | exact rfl | assumption); (case kd => ktr_room); (case ku => ktr_units); (case ko => (with_reducible refine' HdrAt.mono ?kmA ?kmB; (case kmA => assumption); (case kmB => (intro _ hp; repeat (first | exact hp | refine List.mem_cons_of_mem _ ?_))))); (case kl => (k_dflt k_mem)); (case kr => (with_reducible refine' RowsAre.mono ?kmA ?kmB; (case kmA => assumption); (case kmB => (intro _ hp; repeat (first | exact hp | refine List.mem_cons_of_mem _ ?_))))); (case kp => assumption); (case kn => assumption); k_whole); intro _ _ _ _ _ _)
  trivial
theorem toldT6L_6 : True := by
  k_with "call ref" => (k_here; (with_reducible show wpAny _ _ (call (Value.ref 220) _ _) _ _ _); k_dflt (refine' tRuler ?k1 ?k2 ?k3 ?k4 ?k5 ?kK ?kd ?ku ?hz ?hf ?hf8 ?_; (case k1 => k_asm); (case k2 => k_asm); (case k3 => k_asm); (case k4 => k_asm); (case k5 => k_asm); (case kK => first | exact rfl | assumption); (case kd => ktr_room); (case ku => ktr_units); (case hz => assumption); (case hf => assumption); (case hf8 => assumption); k_whole); intro _ _ _ _ _ _ _ _ _ _ _ _)
  trivial
theorem toldT6L_7 : True := by
  k_with "call ref" => (k_here; (with_reducible show wpAny _ _ (call (Value.ref 69) _ _) _ _ _); k_dflt (refine' tGroup6 ?k1 ?k2 ?k3 ?k4 ?k5 ?kK ?kd ?ku ?hl ?hi ?hf ?hcl ?_; (case k1 => k_asm); (case k2 => k_asm); (case k3 => k_asm); (case k4 => k_asm); (case k5 => k_asm); (case kK => first | exact rfl | assumption); (case kd => ktr_room); (case ku => ktr_units); (case hl => assumption); (case hi => assumption); (case hf => assumption); (case hcl => exact rfl); k_whole); intro _ _ _ _ _ _ _ _ _ _ _ _ _ _ _ _ _ _ _)
  trivial

theorem toldT6L_8 : True := by
  k_with "exec For Name Call cons nil" => (refine halt ?_)
  trivial
theorem toldT6L_9 : True := by
  k_with "StrBack" => (unfold StrBack; dsimp only)
  trivial
theorem toldT6L_10 : True := by
  k_with "subscriptTail List BinOp ref int" => (refine halt ?_)
  trivial
theorem toldT6L_11 : True := by
  k_with "LeaveS0" => (refine halt ?_)
  trivial
theorem bare_push {G : Array GenState} {x : GenState} (h : AllBare G) (hx : x.bare = true) : AllBare (G.push x) := by
  intro y hy
  rcases Array.mem_push.mp hy with h1 | h1
  · exact h y h1
  · rw [h1]; exact hx
theorem value_not_stop : isSubtype (.type "ValueError") (.type "StopIteration") = pure false := by rw [isSubtype_type]; kernel_rfl
theorem value_is : isSubtype (.type "ValueError") (.type "ValueError") = pure true := by rw [isSubtype_type]; kernel_rfl
theorem tLay6 {o l ol ll : Addr} {nw nl nn x sz f : Nat} {its itl : List Value} {N₁ : Int} {t u : Tok} {rest : List (Addr × Obj)} (B : Below A₀ base [] h₀) (F : Fr h₀ L s.heap m) (X : (Mine.hd.heap_39 w.params).In h₀) (N : News h₀ L s.heap ((ll, W.listOf itl.toArray nl) :: rest)) (T : Top p loose mean mg mb h₀) (hk : cs.kind = .function) (XB : (Mine.hd.heap_39 w.params).In base) (TB : Top p loose mean mg mb base)
  (hd : dp + 6 < recursionLimit) (hu : un + 48 < cLine) (hz : 2 + N₁.fmod 5 = (sz : Int)) (hf : (N₁.fdiv 5).fmod 8 = (f : Int)) (hx : (N₁.fdiv 40).fmod 3 = (x : Int)) (hf8 : f < 8) (hx3 : x < 3) (hf6 : f = 6)
  (ho : HdrAt rest o l) (hl : (l, W.listOf its.toArray nw) ∈ rest) (hrows : RowsAre rest its (rowsAt nn 0))
  (hps : ∀ q ∈ rowsAt nn 0, CleanS q.1 ∧ CleanS q.2) (hrl : (rowsAt nn 0).length ≤ 50) (hpl : (pageS (rowsAt nn 0)).length ≤ 1000)
  (hbr : AllBare s.gens)
  (hno : ∀ h' tk' Gn, Fr h₀ L h' m → News h₀ L h' ((ll, W.listOf itl.toArray nl) :: rest) → AllBare Gn → Q .none { s with heap := h', toks := tk', gens := Gn }) :
  wpAny (model PySem.Challenge.rw_st0018_01.row.prog w) (ktrTop dp un gd cn cs L a ccd cl []) (call (.ref 246) [.ref o, .ref ol, .int N₁ t, .int nn u]) Q E s := by
  obtain ⟨d, hh, th, nd, h1, h2⟩ := ho.ex
  revert XB
  k_fill
  intro XB
  revert X
  k_fill
  intro X
  refine wpAny_call ?_
  k_dflt cell_enter
  k_steps
  with_reducible (rename News _ _ _ _ => N9)
  rw [hx]
  obtain ⟨u1, u2, u3, e1, e2, e3⟩ := led_strs N9
  obtain ⟨t9, e9, ht9⟩ := eol_at hx3 u1 u2 u3
  rw [e1, e2, e3] at e9 ht9
  clear e1 e2 e3
  refine item_list ⟨_, (N9 _ (.head _)).1, rfl, _, rfl⟩ (by omega) (by omega) e9 ?_ rfl (by intro _; rfl)
  k_steps
  refine SC.replaceA ?hu ?hv ?huv ?hb (fun t8 k8 => ?_) (booked (by k_in))
  case hu => show @Ne Nat _ _; omega
  case hv => rcases ht9 with e | e | e <;> (rw [e]; show @Ne Nat _ _; omega)
  case huv => rcases ht9 with e | e | e <;> (rw [e]; show @Ne Nat _ _; omega)
  case hb =>
    have hz : (eolS x).length ≤ 2 := by
      have h3 : x = 0 ∨ x = 1 ∨ x = 2 := by omega
      rcases h3 with rfl | rfl | rfl <;> decide
    have := Nat.mul_le_mul (Nat.add_le_add_right hpl 1) hz
    omega
  clear e9 ht9
  k_steps
  unfold Halt
  refine For_raise (T := "ValueError") rfl ?hroom value_not_stop ?heval
  case hroom => ktr_room
  k_steps
  unfold Halt
  rename_i hsub hmem hints hlt G8 oG8 gG8 h8 tk8 nm8 qn8 b8 env8 F8 N8 FGG BGG hgn g1 e1 e2 e3 hrun
  refine raAt_mk ?rl (N8 _ (.head _)).1 e1 e2 e3 ?rg fun E' hE' => hrun _ _ rfl fun e h'' tk R U => ⟨raised_get R (.head _), raised_type R rfl, hE' _ _ ?rc⟩
  case rl => exact (T.nolimit.keeps ‹Fr h₀ L _ m›.keep).keeps F8.keep
  case rg => simp
  case rc =>
  show wpAny _ _ _ _ _ _
  refine caught_SN0 (T' := "ValueError") R FGG ‹Below _ _ _ _› U XB TB ‹KtsDicts _ _› KtsTurn.refl ?ex PyProof.Rows.Boot.«ValueError» (by decide) PySem.F.isExc_ValueError PySem.F.notTuple_ValueError value_is (fun h9 g9 T9 F9 N9 B9 X9 P9 D9 => ?_)
  case ex => k_is
  k_steps
  unfold Halt
  dsimp only
  refine leaveS0_ F9 N9 T9 fun F10 N10 => ?_
  refine hno _ _ _ F10 (cb_drop N10 fun q hq => .tail _ (hsub q ?_)) (bare_set (bare_set (bare_push hbr rfl) rfl) rfl)
  rcases List.mem_cons.mp hq with rfl | hq
  · k_mem
  · repeat (first | exact hq | refine .tail _ ?_)
end Mine
end

section
open PySem PySem.W PyProof.Rows PySem.Calls
/-- the walker's notes of the text before are put away -/
theorem Mine.freshT14 {prog : Program} {w : World} {A : Around} {env : Env} {Q : Flow → Shared → Prop} {E : Value → Shared → Prop} {s : Shared} (h : Q .next s) : wpAny (model prog w) A (execs [] env) Q E s := by
  w_on
  w_top off
  k_with_none
  walk1
  exact h
end
section
open PySem PySem.W PySem.W.X PyProof.Rows PySem.Calls
set_option maxRecDepth 100000
set_option maxHeartbeats 8000000
set_option linter.all false
namespace Mine
variable {w : World} {p : Program} {loose : List Str} {mean : ExcName → Option Value} {mg mb : Str → Option Value}
  {dp un : Nat} {gd : Option (List Code)} {cn : Str} {cs : Scope} {a : Addr} {ccd : Value} {cl : List (Str × Addr)} {outer : List Env} {A₀ : Around} {base h₀ : Heap} {L : Addr} {m : Str → Option Value} {news : List (Addr × Obj)} {s : Shared} {Q E : Value → Shared → Prop}
theorem toldT14_1 : True := by
  k_with "cell_enter" => (refine' code_def ?k1 ?k2 ?k3 ?k4 ?k5 ?kA ?kF ?kK ?k6 ?k7 ?k8 ?k9 ?kB ?_ ?c2 ?c3 ?c4 ?c5; (case kA => exact rfl); (case kF => exact rfl); (case kK => assumption); (case k1 => k_asm); (case k2 => k_asm); (case k3 => k_asm); (case k4 => k_asm); (case k5 => k_asm); (case k6 => k_is); (case k7 => k_is); (case k8 => ktr_room); (case k9 => first | exact BindsTo.of_eq rfl | exact binds_K (by k_in) rfl (by k_is) rfl rfl rfl); (case c5 => decide); (case kB => exact locs rfl); (case c2 => exact rfl); (case c3 => exact rfl); (case c4 => exact rfl); k_whole; intro g' L' h' FG' F' N' B' X' T'; (try dsimp only); (try k_lift B'); (try k_fold))
  trivial
theorem toldT14_2 : True := by
  k_with "k_mem" => (refine List.mem_cons_of_mem _ ?_; k_mem)
  trivial
theorem toldT14_3 : True := by
  k_with "ktr_units" => (have hcL9 := cLine_is; ((try simp only [units_under_make, units_in1, units_deeper, Around.mark_units, units_caller] at *); (try dsimp only [ktrTop] at *); omega))
  trivial
theorem toldT14_4 : True := by
  k_with "call type:str" => (k_here; (with_reducible show wpAny _ _ (call (Value.type "str") [Value.ref _]) _ _ _); k_dflt (refine' kso_call ?k1 ?k2 ?k3 ?k4 ?k5 ?_; (case k1 => ktr_units); (case k2 => k_in); (case k3 => k_inst); (case k4 => k_is); (case k5 => k_is); k_whole))
  trivial
theorem toldT14_5 : True := by
  k_with "call ref" => (k_here; (with_reducible show wpAny _ _ (call (Value.ref 178) _ _) _ _ _); k_dflt (refine' tStr ?k1 ?k2 ?k3 ?k4 ?k5 ?kK ?kd ?ku ?ko ?kl ?kr ?kp ?kn ?_; (case k1 => k_asm); (case k2 => k_asm); (case k3 => k_asm); (case k4 => k_asm); (case k5 => k_asm); (case kK => first | exact rfl | assumption); (case kd => ktr_room); (case ku => ktr_units); (case ko => (with_reducible refine' HdrAt.mono ?kmA ?kmB; (case kmA => assumption); (case kmB => (intro _ hp; repeat (first | exact hp | refine List.mem_cons_of_mem _ ?_))))); (case kl => (k_dflt k_mem)); (case kr => (with_reducible refine' RowsAre.mono ?kmA ?kmB; (case kmA => assumption); (case kmB => (intro _ hp; repeat (first | exact hp | refine List.mem_cons_of_mem _ ?_))))); (case kp => assumption); (case kn => assumption); k_whole); intro _ _ _ _ _ _)
  trivial

theorem toldT14_6 : True := by
  k_with "exec For Name Call cons nil" => (refine halt ?_)
  trivial
theorem toldT14_7 : True := by
  k_with "StrBack" => (unfold StrBack; dsimp only)
  trivial
theorem toldT14_8 : True := by
  k_with "subscriptTail List BinOp ref int" => (refine halt ?_)
  trivial
structure LayRest (rest rest' : List (Addr × Obj)) (ol ll HD : Addr) (itl₀ : List Value) (G₀ : List (Nat × Nat)) (itl' : List Value) (G' : List (Nat × Nat)) : Prop where
  sub : ∀ p ∈ rest, p ∈ rest'
  hdr : HdrAt rest' ol ll
  rows : RowsAre rest' itl' (lk G')
  ok : Gok G'
  off : ∀ q ∈ rest', q.1 ≠ ll ∧ q.1 ≠ HD
  ne : HD ≠ ll
  ex : ∃ extra, rest' = extra ++ rest ∧ (∀ e ∈ extra, ∀ q ∈ rest, @LT.lt Nat _ q.1 e.1) ∧ ∀ base, RowsAre base itl₀ (lk G₀) → RowsAre (extra ++ base) itl' (lk G')
/-- the loop over a ruler's sizes -/
inductive LayJ (x nn sz cap : Nat) (itl₀ : List Value) (G : List (Nat × Nat)) (o ol : Addr) (u : Tok) (HD ll : Addr) (rest : List (Addr × Obj)) (k : Nat) (m₁ : Str → Option Value) (news₁ : List (Addr × Obj)) : Prop
  | mk (j : Nat) (y : Str) (ty : Tok) (hts : List Value) (kh : Nat) (itl' : List Value) (nl' : Nat) (rest' : List (Addr × Obj)) (G' : List (Nat × Nat)) (x0 : j + k = cap + 1) (x1 : m₁ "word" = some (.ref o)) (x2 : m₁ "links" = some (.ref ol)) (x3 : m₁ "n" = some (.int nn u)) (x4 : m₁ "heard" = some (.ref HD)) (x5 : m₁ "page" = some (.str y ty)) (x6 : PageAt x nn (j * sz) y) (x7 : IntsAre hts (List.replicate j (sz : Int))) (x8 : news₁ = (HD, W.listOf hts.toArray kh) :: (ll, W.listOf itl'.toArray nl') :: rest') (x9 : LayRest rest rest' ol ll HD itl₀ G itl' G') (x10 : LayNums nn sz cap j G G') : LayJ x nn sz cap itl₀ G o ol u HD ll rest k m₁ news₁
theorem lay_start {g h : Heap} {L' Gn C D : Addr} {oG oC od : Obj} {news news' sub : List (Addr × Obj)} (N8 : News g L' h ((Gn, oG) :: (C, oC) :: news')) (hCG : @LT.lt Nat _ C Gn) (hC : ∀ q ∈ news', @LT.lt Nat _ q.1 C) (hmem : (D, od) ∈ news') (hsub : ∀ p ∈ news, p ∈ news') (hlt : ∀ q ∈ news, @LT.lt Nat _ q.1 D) (hs : ∀ p ∈ sub, p ∈ news) :
    News g L' h (sub ++ (Gn, oG) :: [(C, oC), (D, od)]) ∧ OwnOff ((Gn, oG) :: [(C, oC), (D, od)]) (sub.map (·.1)) := by
  constructor
  · refine cb_drop N8 fun p hp => ?_
    rcases List.mem_append.mp hp with hp | hp
    · exact .tail _ (.tail _ (hsub _ (hs _ hp)))
    · rcases List.mem_cons.mp hp with rfl | hp
      · exact .head _
      · rcases List.mem_cons.mp hp with rfl | hp
        · exact .tail _ (.head _)
        · rw [List.mem_singleton.mp hp]; exact .tail _ (.tail _ hmem)
  · intro p hp b hb
    obtain ⟨q, hq, rfl⟩ := List.mem_map.mp hb
    have h1 := hlt q (hs q hq)
    have h2 := hC _ hmem
    have h1' : @LT.lt Nat _ q.1 D := h1
    have h2' : @LT.lt Nat _ D C := h2
    rcases List.mem_cons.mp hp with rfl | hp
    · exact neN (by show @Ne Nat Gn q.1; omega)
    · rcases List.mem_cons.mp hp with rfl | hp
      · exact neN (by show @Ne Nat C q.1; omega)
      · rw [List.mem_singleton.mp hp]; exact neN (by show @Ne Nat D q.1; omega)
theorem wp_halt {α : Type} {M : Model} {A : Around} {t : Sem α} {Q : α → Shared → Prop} {E : Value → Shared → Prop} {s : Shared} (h : wpAny M A t (fun x s => Halt (Q x s)) E s) : wpAny M A t Q E s := h
theorem toldT14_9 : True := by
  k_with "call ref" => (k_here; (with_reducible show wpAny _ _ (call (Value.ref 220) _ _) _ _ _); k_dflt (refine' tRuler ?k1 ?k2 ?k3 ?k4 ?k5 ?kK ?kd ?ku ?hz ?hf ?hf8 ?_; (case k1 => k_asm); (case k2 => k_asm); (case k3 => k_asm); (case k4 => k_asm); (case k5 => k_asm); (case kK => first | exact rfl | assumption); (case kd => ktr_room); (case ku => ktr_units); (case hz => assumption); (case hf => assumption); (case hf8 => assumption); k_whole); intro _ _ _ _ _ _ _ _ _ _ _ _)
  trivial
theorem toldT14_10 : True := by
  k_with "call ref" => (k_here; (with_reducible show wpAny _ _ (call (Value.ref 69) _ _) _ _ _); k_dflt (refine' tGroup ?k1 ?k2 ?k3 ?k4 ?k5 ?kK ?kd ?ku ?hl ?hi ?hf8 ?hf6 ?hn ?hz2 ?hz6 ?_; (case k1 => k_asm); (case k2 => k_asm); (case k3 => k_asm); (case k4 => k_asm); (case k5 => k_asm); (case kK => first | exact rfl | assumption); (case kd => ktr_room); (case ku => ktr_units); (case hl => assumption); (case hi => assumption); (case hf8 => assumption); (case hf6 => assumption); (case hn => assumption); (case hz2 => assumption); (case hz6 => assumption); k_whole); intro _ _ _ _ _ _ _ _ _ _ _ _ _)
  trivial

theorem toldT14_11 : True := by
  k_with "ite" => (refine halt ?_)
  trivial
theorem toldT14_12 : True := by
  k_with "call builtin:str.split" => (refine halt ?_)
  trivial
theorem toldT14_13 : True := by
  k_with "exec Assign cons ListComp" => (refine halt ?_)
  trivial
theorem toldT14_14 : True := by
  k_with "subscriptTail Name Constant ref int" => (refine halt ?_)
  trivial
theorem toldT14_15 : True := by
  k_with "exec For Tuple Name cons nil" => (refine halt ?_)
  trivial
theorem toldT14_16 : True := by
  k_with "pyIter ref" => (refine halt ?_)
  trivial
theorem toldT14_17 : True := by
  k_with "call ref" => (k_here; (with_reducible show wpAny _ _ (call (Value.ref 55) _ _) _ _ _); k_dflt (refine' tQuote ?k1 ?k2 ?k3 ?k4 ?k5 ?kK ?kd ?ku ?hx ?_; (case k1 => k_asm); (case k2 => k_asm); (case k3 => k_asm); (case k4 => k_asm); (case k5 => k_asm); (case kK => first | exact rfl | assumption); (case kd => ktr_room); (case ku => ktr_units); (case hx => assumption); k_whole); intro _ _ _ _ _)
  trivial

theorem use_setHit {x y : Str} {tx ty : Tok} {o l : Addr} {n : Nat} {its : List Value} {ps : List (Str × Str)} {q : Str × Str} (B : Below A₀ base outer h₀) (F : Fr h₀ L s.heap m) (X : (Mine.hd.heap_39 w.params).In h₀) (N : News h₀ L s.heap news) (T : Top p loose mean mg mb h₀) (hk : cs.kind = .function)
  (hd : dp + 3 < recursionLimit) (hu : un + 24 < cLine) (hx : CleanS x) (hxl : CleanS (Txt.lower x)) (ho : HdrAt news o l) (hl : (l, W.listOf its.toArray n) ∈ news) (hrows : RowsAre news its ps) (hps : ∀ q ∈ ps, CleanS q.1)
  (hit : ps.find? (fun p => decide (Txt.lower p.1 = Txt.lower x)) = some q)
  (hret : ∀ u h' tk', Fr h₀ L h' m → News h₀ L h' news → Q (.str q.2 u) { s with heap := h', toks := tk' }) :
  wpAny (model PySem.Challenge.rw_st0018_01.row.prog w) (ktrTop dp un gd cn cs L a ccd cl outer) (call (.ref 192) [.ref o, .str x tx, .str y ty]) Q E s := tSetHit ⟨B, F, X, N, T, hk⟩ hd hu hx hxl ho hl hrows hps hit hret
theorem toldT14_18 : True := by
  k_with "call ref" => (k_here; (with_reducible show wpAny _ _ (call (Value.ref 192) _ _) _ _ _); k_dflt (refine' use_setHit ?k1 ?k2 ?k3 ?k4 ?k5 ?kK ?kd ?ku ?hx ?hxl ?ho ?hl ?hr ?hp ?hi ?_; (case k1 => k_asm); (case k2 => k_asm); (case k3 => k_asm); (case k4 => k_asm); (case k5 => k_asm); (case kK => first | exact rfl | assumption); (case kd => ktr_room); (case ku => ktr_units); (case hx => assumption); (case hxl => assumption); (case ho => assumption); (case hl => assumption); (case hr => assumption); (case hp => assumption); (case hi => assumption); k_whole); intro _ _ _ _ _)
  trivial
theorem toldT14_19 : True := by
  k_with "call ref" => (k_here; (with_reducible show wpAny _ _ (call (Value.ref 241) _ _) _ _ _); k_dflt (refine' tJoin ?k1 ?k2 ?k3 ?k4 ?k5 ?kK ?kd ?ku ?hi ?hj ?hK ?hR ?hf ?hn ?_; (case k1 => k_asm); (case k2 => k_asm); (case k3 => k_asm); (case k4 => k_asm); (case k5 => k_asm); (case kK => first | exact rfl | assumption); (case kd => ktr_room); (case ku => ktr_units); (case hi => assumption); (case hj => assumption); (case hK => assumption); (case hR => assumption); (case hf => assumption); (case hn => assumption); k_whole); intro _ _ _ _ _ _)
  trivial

theorem tLayN {o l ol ll : Addr} {nw nl nn x sz f : Nat} {its itl : List Value} {G : List (Nat × Nat)} {N₁ : Int} {t u : Tok} {rest : List (Addr × Obj)} (B : Below A₀ base outer h₀) (F : Fr h₀ L s.heap m) (X : (Mine.hd.heap_39 w.params).In h₀) (N : News h₀ L s.heap ((ll, W.listOf itl.toArray nl) :: rest)) (T : Top p loose mean mg mb h₀) (hk : cs.kind = .function)
  (hd : dp + 6 < recursionLimit) (hu : un + 48 < cLine) (hz : 2 + N₁.fmod 5 = (sz : Int)) (hf : (N₁.fdiv 5).fmod 8 = (f : Int)) (hx : (N₁.fdiv 40).fmod 3 = (x : Int)) (hf8 : f < 8) (hx3 : x < 3) (hz2 : 2 ≤ sz) (hz6 : sz ≤ 6) (hn1 : 1 ≤ nn) (hn : nn ≤ 10)
  (ho : HdrAt rest o l) (hl : (l, W.listOf its.toArray nw) ∈ rest) (hrows : RowsAre rest its (rowsAt nn 0))
  (K : LinksAt ((ll, W.listOf itl.toArray nl) :: rest) ol ll itl nl G) (hR : HdrAt rest ol ll ∧ RowsAre rest itl (lk G)) (hoff : OwnOff rest [ll])
  (hps : ∀ q ∈ rowsAt nn 0, CleanS q.1 ∧ CleanS q.2) (hrl : (rowsAt nn 0).length ≤ 50) (hpl : (pageS (rowsAt nn 0)).length ≤ 1000)
  (hbr : AllBare s.gens) (hgl : G.length ≤ 200) (hGok : Gok G)
  (hf6 : f ≠ 6)
  (hret : f ≠ 6 → ∀ HD hts kh itl' nl' rest' G' h' tk' Gn, Fr h₀ L h' m → News h₀ L h' ((HD, W.listOf (List.toArray hts) kh) :: (ll, W.listOf (List.toArray itl') nl') :: rest') → LayRest rest rest' ol ll HD itl G itl' G' → IntsAre hts (List.replicate (manyOf f sz nn).toNat (sz : Int)) → G' = layG nn sz (capTot f sz nn) 0 G → AllBare Gn → Q (.ref HD) { s with heap := h', toks := tk', gens := Gn }) :
  wpAny (model PySem.Challenge.rw_st0018_01.row.prog w) (ktrTop dp un gd cn cs L a ccd cl outer) (call (.ref 246) [.ref o, .ref ol, .int N₁ t, .int nn u]) Q E s := by
  obtain ⟨d, hh, th, nd, h1, h2⟩ := ho.ex
  revert X
  k_fill
  intro X
  refine wpAny_call ?_
  k_dflt cell_enter
  k_steps
  with_reducible (rename News _ _ _ _ => N9)
  rw [hx]
  obtain ⟨u1, u2, u3, e1, e2, e3⟩ := led_strs N9
  obtain ⟨t9, e9, ht9⟩ := eol_at hx3 u1 u2 u3
  rw [e1, e2, e3] at e9 ht9
  clear e1 e2 e3
  refine item_list ⟨_, (N9 _ (.head _)).1, rfl, _, rfl⟩ (by omega) (by omega) e9 ?_ rfl (by intro _; rfl)
  k_steps
  refine SC.replaceA ?hu ?hv ?huv ?hb (fun t8 k8 => ?_) (booked (by k_in))
  case hu => show @Ne Nat _ _; omega
  case hv => rcases ht9 with e | e | e <;> (rw [e]; show @Ne Nat _ _; omega)
  case huv => rcases ht9 with e | e | e <;> (rw [e]; show @Ne Nat _ _; omega)
  case hb =>
    have hz : (eolS x).length ≤ 2 := by
      have h3 : x = 0 ∨ x = 1 ∨ x = 2 := by omega
      rcases h3 with rfl | rfl | rfl <;> decide
    have := Nat.mul_le_mul (Nat.add_le_add_right hpl 1) hz
    omega
  have hpg : (Txt.replace (pageS (rowsAt nn 0)) (PySem.Str.ofString "\r\n") (eolS x)).cps.toList = pgE (eolOf x) 0 (List.range nn) := by
    rw [show PySem.Str.ofString "\r\n" = rn from by decide +kernel]
    exact repl_pg hx3 hn
  generalize Txt.replace (pageS (rowsAt nn 0)) (PySem.Str.ofString "\r\n") (eolS x) = y0 at hpg ⊢
  clear e9 ht9
  k_steps
  unfold Halt
  with_reducible (rename Fr _ _ _ _ => F9)
  obtain ⟨cap, hcap, hcapd⟩ : ∃ cap, (infOf f = false → cap + 1 = capOf f + 1) ∧ cap = capTot f sz nn := ⟨_, fun h => by unfold capTot; rw [h]; rfl, rfl⟩
  try k_fold
  refine For_grA F9 ⟨_, _, rfl⟩ rfl ?hl ?hroom ?heval
  case hl => exact Top.nolimit (by assumption)
  case hroom => ktr_room
  k_steps
  unfold Halt
  with_reducible (rename Fr _ _ _ _ => F8)
  with_reducible (rename News _ _ _ _ => N8)
  with_reducible (rename GenIs _ _ _ _ _ _ _ _ _ _ _ _ _ => hGen)
  have hCG := ‹@LT.lt Nat _ _ _›
  have hmem := ‹(_, W.listOf _ _) ∈ _›
  have hhd := ‹_ ∧ AllLt _ rest›
  have hhd' := ‹ll < _ ∧ AllLt _ rest›
  obtain ⟨NS, offS⟩ := lay_start (sub := (_, W.listOf ([] : List Value).toArray 0) :: (ll, W.listOf itl.toArray nl) :: rest) N8 hCG (by assumption) hmem (by assumption) (by assumption) (by
    intro p hp
    rcases List.mem_cons.mp hp with rfl | hp
    · k_mem
    · rcases List.mem_cons.mp hp with rfl | hp
      · k_mem
      · repeat (first | exact hp | refine .tail _ ?_))
  obtain ⟨HD, eHD⟩ := head_led NS
  subst eHD
  have hHD := ‹ll < HD ∧ AllLt HD rest›
  clear hhd hhd'
  refine grAt_mk (LayJ x nn sz cap itl G o ol u HD ll rest) hGen ?hgs ?hbare F8 NS offS ?hJ0 ?turn ?done
  case hgs => simp
  case hbare => exact bare_push hbr ‹_ = true›
  case hJ0 =>
    exact ⟨0, y0, _, [], 0, itl, nl, rest, G, by omega, rfl, rfl, rfl, rfl, rfl, .inr ⟨Nat.zero_mul _, hpg⟩, .nil, rfl, ⟨fun _ h => h, hR.1, hR.2, hGok, fun q hq => ⟨hoff q hq ll (.head _), neN (by have := allLt_all hHD.2 q hq; omega)⟩, neN (by have := hHD.1; omega), ⟨[], rfl, (fun _ h => by cases h), fun _ r => r⟩⟩, LayNums.start⟩
  case done =>
    rintro m₁ news₁ h tk Gn ⟨j, y, ty, hts, kh, itl', nl', rest', G', hjk, e1, e2, e3, e4, e5, hpg', hints, rfl, R', hN'⟩ hi hbare F₁ N₁
    clear F8 N8 NS
    rw [known e1, known e2, known e3, known e4, known e5] at F₁
    k_steps
    refine hret hf6 HD hts kh itl' nl' rest' G' _ _ Gn (by k_asm) (by k_asm) R' ?_ (by rw [← hcapd]; exact hN'.fin hjk) hbare
    rw [manyOf_done hcapd hf8 hf6 hi hz2 hn1 hjk hN'.off]
    exact hints
  rintro n t m₁ news₁ own h tk Gn ⟨j, y, ty, hts, kh, itl', nl', rest', G', hjk, e1, e2, e3, e4, e5, hpg', hints, rfl, R', hN'⟩ hn0 hbare hoff' F₁ N₁
  clear F8 N8 NS
  rw [known e1, known e2, known e3, known e4, known e5] at F₁
  rw [List.cons_append, List.cons_append] at N₁
  have hj10 : j ≤ 10 := by
    rcases hN'.off with h | h
    · omega
    · have := Nat.mul_le_mul_left j hz2
      omega
  have hkl : hts.length ≤ 1000 := by
    have := hints.length
    rw [List.length_replicate] at this
    omega
  have hoH : ∀ b, b ∈ own.map (·.1) → b ≠ HD ∧ b ≠ ll := by
    intro b hb
    obtain ⟨q, hq, rfl⟩ := List.mem_map.mp hb
    exact ⟨hoff' q hq HD (by simp), hoff' q hq ll (by simp)⟩
  have hoffH : OwnOff ((ll, W.listOf itl'.toArray nl') :: (rest' ++ own)) [HD] := by
    intro q hq b hb
    rw [List.mem_singleton.mp hb]
    rcases List.mem_cons.mp hq with rfl | hq
    · exact R'.ne.symm
    · rcases List.mem_append.mp hq with hq | hq
      · exact (R'.off q hq).2
      · exact (hoH _ (List.mem_map_of_mem hq)).1
  generalize hRq : ((ll, W.listOf itl'.toArray nl') :: (rest' ++ own)) = Rq at N₁ hoffH
  try k_fold
  k_steps
  unfold Halt
  with_reducible (rename Fr _ _ _ _ => F2)
  try k_fold
  refine For_gen F2 (.inr ⟨_, _, rfl⟩) ?_
  k_steps
  unfold Halt
  with_reducible (rename Fr _ _ _ _ => F3)
  with_reducible (rename News _ _ _ _ => N3)
  with_reducible (rename IsRange _ _ _ _ _ _ _ _ => hrg)
  have hszn : j * sz ≤ 60 := Nat.mul_le_mul hj10 hz6
  rw [show hts.toArray.push (Value.int (sz : Int) t) = (hts ++ [Value.int (sz : Int) t]).toArray from by simp] at N3
  refine ForAt_range rfl rfl F3 N3 hrg (small_sz (by omega)).1 (small_sz (by omega)).2 (fun i m₁ news₁ => m₁ "word" = some (.ref o) ∧ m₁ "links" = some (.ref ol) ∧ m₁ "n" = some (.int nn u) ∧ m₁ "heard" = some (.ref HD) ∧ (∃ y ty, m₁ "page" = some (.str y ty) ∧ PageAt x nn (j * sz + i) y) ∧ news₁ = (HD, W.listOf (hts ++ [Value.int (sz : Int) t]).toArray (kh + 1)) :: Rq) ?p0 ?pturn ?pdone
  case p0 => exact ⟨rfl, rfl, rfl, rfl, ⟨_, _, rfl, hpg'⟩, rfl⟩
  case pturn =>
    rintro i t2 m₁ news₁ own2 h tk hi ⟨e1, e2, e3, e4, ⟨y, ty, e5, hpy⟩, rfl⟩ hoff2 F₁ N₁
    rw [known e1, known e2, known e3, known e4, known e5] at F₁
    clear F3 N3
    have hys := hpy.short (by omega) hn
    try k_fold
    k_steps
    with_reducible (rename Fr _ _ _ _ => F4)
    with_reducible (rename News _ _ _ _ => N4)
    exact turn_next (news₂ := (HD, W.listOf (hts ++ [Value.int (sz : Int) t]).toArray (kh + 1)) :: Rq) F4 N4 hoff2 ⟨rfl, rfl, rfl, rfl, ⟨_, _, rfl, hpy.step⟩, rfl⟩
  case pdone =>
    clear F₁ N₁
    rintro m₁ news₁ h tk ⟨e1, e2, e3, e4, ⟨y, ty, e5, hpy⟩, rfl⟩ F₁ N₁
    rw [known e1, known e2, known e3, known e4, known e5] at F₁
    clear F3 N3
    have hys := hpy.short (by omega) hn
    obtain rfl := hpy.page (by omega)
    k_steps
    unfold Halt
    rw [last_page hn1, show ((⟨#[13, 10, 13, 10]⟩ : Str) != PySem.Str.ofString "\r\n\r\n") = false from by decide +kernel]
    rw [if_neg Bool.false_ne_true]
    k_steps
    unfold Halt
    with_reducible (rename Fr _ _ _ _ => F5)
    try k_fold
    refine Assign_compF (cl := []) F5 rfl rfl (by decide) rfl (fun I l' i v s Q E _ hQ => goN hQ) rfl (by decide) rfl rfl ?cev
    k_steps
    unfold Halt
    with_reducible (rename Fr _ _ _ _ => F5)
    with_reducible (rename News _ _ _ _ => N5)
    refine splitN1 F5 N5 rfl ?_ (by rw [sizeLine_eq]; show Array.size _ + 2 ≤ _; omega)
    intro rt h' k' hsp F6 N6
    rw [show PySem.Str.ofString "\r\n" = rn from by decide +kernel, split_page hn1] at hsp
    dsimp only at N6
    clear F5 N5
    k_steps
    have hrtl : rt.length = nn + 2 := by
      have := congrArg List.length hsp
      simp only [List.length_map, List.length_append, List.length_cons, List.length_nil, rowsAt, List.length_range] at this
      exact this
    have hsp2 : (rt.take nn).map (·.1) = (rowsAt nn (j * sz + sz)).map rowS := by
      rw [List.map_take, hsp, List.take_left' (by simp [rowsAt])]
    have epick : slicePick (strValues rt).toArray none (some (-2)) none = (strValues (rt.take nn)).toArray := by
      have := slicePick_butLast (strValues rt).toArray 2 (by decide)
      rw [show (-((2 : Nat) : Int)) = -2 from rfl] at this
      rw [this]
      have e : (strValues rt).toArray.size - 2 = nn := by simp [strValues, hrtl]
      rw [e]
      simp [strValues, List.map_take]
    refine slice_list F6 N6 ⟨_, (N6 _ (.head _)).1, rfl, _, rfl⟩ .none (.int _ _) ?_ (hsz := by rw [sizeLine_eq]; simp [strValues, hrtl]; omega)
    intro h7 F7 N7
    rw [epick] at N7
    refine compSt_mk (its := strValues (rt.take nn)) (n := 0) CutR (fun v mc => mc "row" = some v) F7 N7 (.head _) (by simp [strValues]; omega) cutR_keeps ?chasg ?chelt ?chQ
    case chasg =>
      intro C v s₃ mc Q E hv hn _ hq
      exact asg_name rfl rfl hn hq
    case chelt =>
      intro N₀ C v h tk mc E hv hnC hA hs F₁ N₁
      obtain ⟨q, hq, rfl⟩ := List.mem_map.mp hv
      have hqr : q.1 ∈ (rowsAt nn (j * sz + sz)).map rowS := by rw [← hsp2]; exact List.mem_map_of_mem hq
      obtain ⟨p, hp, ep⟩ := List.mem_map.mp hqr
      have hql := row_short (by omega) hn hp
      rw [ep] at hql
      refine MethodCall_ (wpAny_Name (wpAny_loadName_local rfl rfl hnC hA ?_))
      clear F6 N6 F7 N7
      k_steps
      unfold Halt
      refine split_push rfl ?_ (by rw [sizeLine_eq]; omega)
      intro rt2 k2 h2
      refine ⟨_, _, rfl, fun b o e => Heap.get?_push_of_some _ e, _, rt2, 0, q.1, q.2, rfl, rfl, ?_, Heap.get?_push_size _ rfl, h2⟩
      exact hs
    case chQ =>
      intro N₀ D h' tk ys k F₁ N₁ hlt hLD hF hDN
      obtain ⟨led, l1, l2, l3⟩ := rows_led rfl hsp2 rowsAt_cut hF
      clear F6 N6 F7 N7
      subst hRq
      have hHDD : @LT.lt Nat _ HD D := hlt _ (.tail _ (.tail _ (.head _)))
      have hllD : @LT.lt Nat _ ll D := hlt _ (.tail _ (.tail _ (.tail _ (.head _))))
      have hysl : ys.toList.length = nn := by rw [l2]; simp [rowsAt]
      obtain ⟨v0, hv0⟩ : ∃ v, ys.toList[0]? = some v := ⟨_, List.getElem?_eq_getElem (by omega)⟩
      obtain ⟨a0, p0, t0, u0, n0, hp0, rfl, hm0⟩ := l3 0 v0 hv0
      obtain ⟨_, rfl⟩ := rowsAt_get hp0
      have hy0 : ys[0]? = some (Value.ref a0) := by simpa using hv0
      have hys0 : 0 < ys.size := by rw [← Array.length_toList]; omega
      dsimp only at hm0
      have N₂ := news_led (big := (a0, W.listOf #[.str (dotS (0 + 1 + (j * sz + sz))) t0, .str (ltr 0) u0] n0) :: (ll, W.listOf itl'.toArray nl') :: (HD, W.listOf (hts ++ [Value.int (sz : Int) t]).toArray (kh + 1)) :: (D, W.listOf ys k) :: (led ++ (rest' ++ own))) F₁ N₁ l1 hLD hDN (by
        intro q hq
        rcases List.mem_cons.mp hq with h | hq
        · rw [h]; exact .inl hm0
        rcases List.mem_cons.mp hq with h | hq
        · rw [h]; exact .inr (.tail _ (.tail _ (.tail _ (.tail _ (.head _)))))
        rcases List.mem_cons.mp hq with h | hq
        · rw [h]; exact .inr (.tail _ (.tail _ (.tail _ (.head _))))
        rcases List.mem_cons.mp hq with h | hq
        · rw [h]; exact .inr (.head _)
        rcases List.mem_append.mp hq with h | hq
        · exact .inl h
        · exact .inr (.tail _ (.tail _ (.tail _ (.tail _ (.tail _ hq))))))
      clear N₁
      have hoffD : OwnOff ((HD, W.listOf (hts ++ [Value.int (sz : Int) t]).toArray (kh + 1)) :: (D, W.listOf ys k) :: (led ++ (rest' ++ own))) [ll] := by
        intro q hq b hb
        rw [List.mem_singleton.mp hb]
        rcases List.mem_cons.mp hq with rfl | hq
        · exact R'.ne
        rcases List.mem_cons.mp hq with rfl | hq
        · exact neN (by show @Ne Nat D ll; omega)
        rcases List.mem_append.mp hq with hq | hq
        · have : @LE.le Nat _ N₀ q.1 := (l1 q hq).1
          exact neN (by omega)
        rcases List.mem_append.mp hq with hq | hq
        · exact (R'.off q hq).1
        · exact (hoH _ (List.mem_map_of_mem hq)).2
      generalize hREST : ((HD, W.listOf (hts ++ [Value.int (sz : Int) t]).toArray (kh + 1)) :: (D, W.listOf ys k) :: (led ++ (rest' ++ own))) = REST at N₂ hoffD
      dsimp only
      have hdl := dotS_len (0 + 1 + (j * sz + sz))
      k_steps
      unfold Halt
      refine item_list ⟨_, (N₂ (D, W.listOf ys k) (.tail _ (.tail _ (by rw [← hREST]; exact .tail _ (.head _))))).1, rfl, _, rfl⟩ (by decide) (by omega) hy0 ?_ rfl (by intro _; rfl)
      k_steps
      unfold Halt
      rw [hdl]
      have h1n := LayNums.more hN' hcapd hz2 hn1 hjk hn0
      by_cases hb : nn < 1 + (j * sz + sz)
      · rw [if_pos (decide_eq_true (by omega))]
        k_steps
        unfold TurnEnd
        dsimp only
        k_steps
        refine hret hf6 HD (hts ++ [Value.int (sz : Int) t]) (kh + 1) itl' nl' rest' G' _ _ Gn (by k_asm) (cb_drop (by k_asm) ?_) R' ?_ (by rw [← hcapd]; exact hN'.brk hjk h1n hb) hbare
        · intro q hq
          rcases List.mem_cons.mp hq with rfl | hq
          · exact .tail _ (.tail _ (by rw [← hREST]; exact .head _))
          rcases List.mem_cons.mp hq with rfl | hq
          · exact .tail _ (.head _)
          · exact .tail _ (.tail _ (by rw [← hREST]; exact .tail _ (.tail _ (List.mem_append_right _ (List.mem_append_left _ hq)))))
        · rw [manyOf_break hcapd hf8 hf6 hz2 hn1 hjk h1n hN'.off hb]
          exact ints_more t hints
      · rw [if_neg (by intro hx; have := of_decide_eq_true hx; omega)]
        k_steps
        unfold Halt
        with_reducible (rename Fr _ _ _ _ => F4)
        have hDm : (D, W.listOf ys k) ∈ REST := by rw [← hREST]; exact .tail _ (.head _)
        try k_fold
        refine For_list F4 (l := D) (its := ys.toList) (RowJ nn sz (j * sz + sz) o ol u HD ll (pageS (rowsAt nn (j * sz + sz))) ty G' itl' REST) rfl (fun I l' i v s Q E hit hQ => goT hit hQ) ?rkeep ?rev ?rturn ?rdone
        case rkeep =>
          rintro i m₁ news₁ h₁ ⟨itl2, nl2, ex, _, _, _, _, _, rfl, _⟩ _ N₁
          rw [show ys.toList.toArray = ys from by simp]
          exact ⟨_, (N₁ _ (.tail _ (List.mem_append_right _ hDm))).1, rfl, _, rfl⟩
        case rev =>
          k_steps
          refine ⟨_, _, _, _, rfl, rfl, by k_asm, cb_drop (news := (ll, W.listOf itl'.toArray nl') :: ([] ++ REST)) (by k_asm) (fun q hq => .tail _ hq), ⟨itl', nl', [], rfl, rfl, rfl, rfl, rfl, rfl, (fun _ h => by cases h), (fun _ r => r), R'.ok⟩⟩
        case rturn =>
          rintro i v m₁ news₁ own2 h tk hv ⟨itl2, nl2, ex, e1, e2, e3, e4, e5, rfl, hex, hrwc, hok⟩ hoff2 F₁ N₁
          have hrw := hrwc rest' R'.rows
          obtain ⟨ai, pi, ti, ui, ni, hpi, rfl, hmi⟩ := l3 i v hv
          obtain ⟨hin, rfl⟩ := rowsAt_get hpi
          dsimp only at hmi
          rw [known e1, known e2, known e3, known e4, known e5] at F₁
          clear F4 N₂
          have hledR : ∀ q ∈ led ++ (rest' ++ own), q ∈ REST := fun q hq => by rw [← hREST]; exact .tail _ (.tail _ hq)
          have hmR : (ai, W.listOf #[.str (dotS (i + 1 + (j * sz + sz))) ti, .str (ltr i) ui] ni) ∈ REST := hledR _ (List.mem_append_left _ hmi)
          have hrestR : ∀ q ∈ rest', q ∈ REST := fun q hq => hledR _ (List.mem_append_right _ (List.mem_append_left _ hq))
          have hllo2 : ∀ q ∈ own2, q.1 ≠ ll := fun q hq => hoff2 q hq ll (.head _)
          obtain ⟨Z, hZ⟩ : ∃ Z, Z = (ai, W.listOf #[.str (dotS (i + 1 + (j * sz + sz))) ti, .str (ltr i) ui] ni) :: ((ex ++ REST) ++ own2) := ⟨_, rfl⟩
          have hexZ : ∀ q ∈ ex ++ REST, q ∈ Z := fun q hq => by rw [hZ]; exact .tail _ (List.mem_append_left _ hq)
          have hoZ : OwnOff Z [ll] := by
            intro q hq b hb
            rw [List.mem_singleton.mp hb]
            rw [hZ] at hq
            rcases List.mem_cons.mp hq with rfl | hq
            · exact hoffD _ hmR ll (.head _)
            rcases List.mem_append.mp hq with hq | hq
            · rcases List.mem_append.mp hq with hq | hq
              · exact neN (by have := (hex q hq).1; omega)
              · exact hoffD _ hq ll (.head _)
            · exact hllo2 q hq
          have N₃ : News _ _ h ((ll, W.listOf itl2.toArray nl2) :: (ai, W.listOf #[.str (dotS (i + 1 + (j * sz + sz))) ti, .str (ltr i) ui] ni) :: Z) := cb_drop N₁ (by
            intro q hq
            rcases List.mem_cons.mp hq with rfl | hq
            · exact .head _
            rcases List.mem_cons.mp hq with rfl | hq
            · exact .tail _ (List.mem_append_left _ (List.mem_append_right _ hmR))
            rw [hZ] at hq
            rcases List.mem_cons.mp hq with rfl | hq
            · exact .tail _ (List.mem_append_left _ (List.mem_append_right _ hmR))
            · exact .tail _ hq)
          clear N₁
          have hdl := dotS_len (i + 1 + (j * sz + sz))
          have hsub : ∀ q ∈ ex ++ rest', q ∈ Z := fun q hq => hexZ q ((List.mem_append.mp hq).elim (fun h => List.mem_append_left _ h) (fun h => List.mem_append_right _ (hrestR q h)))
          have hi10 : i < 10 := by omega
          have hlk : (linksTo nn (j * sz + sz) G' i).length ≤ 900 := by
            have h1 := fold_len nn (j * sz + sz) (List.range i) G'
            have h2 := hN'.len
            rw [List.length_range] at h1
            unfold linksTo
            omega
          have hK : LinksAt ((ll, W.listOf itl2.toArray nl2) :: (ai, W.listOf #[.str (dotS (i + 1 + (j * sz + sz))) ti, .str (ltr i) ui] ni) :: Z) ol ll itl2 nl2 (linksTo nn (j * sz + sz) G' i) :=
            ⟨R'.hdr.mono fun q hq => .tail _ (.tail _ (hsub q (List.mem_append_right _ hq))), .head _, hrw.mono fun q hq => .tail _ (.tail _ (hsub q hq)), hok⟩
          have hRR : HdrAt ((ai, W.listOf #[.str (dotS (i + 1 + (j * sz + sz))) ti, .str (ltr i) ui] ni) :: Z) ol ll ∧ RowsAre ((ai, W.listOf #[.str (dotS (i + 1 + (j * sz + sz))) ti, .str (ltr i) ui] ni) :: Z) itl2 (lk (linksTo nn (j * sz + sz) G' i)) :=
            ⟨R'.hdr.mono fun q hq => .tail _ (hsub q (List.mem_append_right _ hq)), hrw.mono fun q hq => .tail _ (hsub q hq)⟩
          have hoAZ : OwnOff ((ai, W.listOf #[.str (dotS (i + 1 + (j * sz + sz))) ti, .str (ltr i) ui] ni) :: Z) [ll] := by
            intro q hq
            rcases List.mem_cons.mp hq with rfl | hq
            · exact hoffD _ hmR
            · exact hoZ q hq
          have hrZ : ∀ q ∈ rest, q ∈ (ll, W.listOf itl2.toArray nl2) :: (ai, W.listOf #[.str (dotS (i + 1 + (j * sz + sz))) ti, .str (ltr i) ui] ni) :: Z := fun q hq => .tail _ (.tail _ (hsub q (List.mem_append_right _ (R'.sub q hq))))
          have h1Z : (o, instObj 202 d) ∈ Z := hsub _ (List.mem_append_right _ (R'.sub _ h1))
          have h2Z : (d, dictOf [{ hash := hh, key := Value.str (Str.ofString "_headers") th, val := Value.ref l }] nd) ∈ Z := hsub _ (List.mem_append_right _ (R'.sub _ h2))
          have ho2 := ho.mono hrZ
          have hl2 := hrZ _ hl
          have hrows2 := hrows.mono hrZ
          have hpsn : ∀ q ∈ rowsAt nn 0, CleanS q.1 := fun q hq => (hps q hq).1
          have hZall : ∀ q ∈ (ll, W.listOf itl2.toArray nl2) :: ((ex ++ REST) ++ own2), q ∈ (ll, W.listOf itl2.toArray nl2) :: (ai, W.listOf #[.str (dotS (i + 1 + (j * sz + sz))) ti, .str (ltr i) ui] ni) :: Z := by
            intro q hq
            rcases List.mem_cons.mp hq with rfl | hq
            · exact .head _
            · exact .tail _ (.tail _ (by rw [hZ]; exact .tail _ hq))
          have hoffN : OwnOff own2 (((ll, W.listOf itl2.toArray nl2) :: (ex ++ REST)).map (·.1)) := hoff2
          clear hoff2
          try k_fold
          k_steps
          unfold Halt
          rw [hdl]
          by_cases hle : i + 1 + (j * sz + sz) ≤ nn
          · rw [if_pos (decide_eq_true (by omega))]
            have hfd := find_dots (by omega) hle hn
            rw [show i + 1 + (j * sz + sz) - 1 = i + (j * sz + sz) by omega] at hfd
            have hit := hfd.1
            have hcx := hpsn _ (dots_in (m := i + 1 + (j * sz + sz)) (by omega) hle)
            have hcl : CleanS (Txt.lower (dotS (i + 1 + (j * sz + sz)))) := by rw [hfd.2]; exact hcx
            have hj10' : i + (j * sz + sz) < 10 := by omega
            clear hZ
            k_steps
            with_reducible (rename Joined _ _ _ _ _ _ _ => hJd)
            with_reducible (rename Fr _ _ _ _ => F8)
            with_reducible (rename News _ _ _ _ => N8)
            obtain ⟨its3, n3, extra, e9, K3, hfr3, hup3⟩ := hJd.ex
            rw [e9] at N8
            have hexc : ∀ e ∈ extra, ∀ q ∈ (ll, W.listOf itl2.toArray nl2) :: ((ex ++ REST) ++ own2), @LT.lt Nat _ q.1 e.1 := by
              intro e he q hq
              rcases List.mem_cons.mp (hZall q hq) with h | h
              · rw [h]; exact (hfr3 e he).1
              · exact (hfr3 e he).2 q h
            refine turn_next (news₂ := (ll, W.listOf its3.toArray n3) :: ((extra ++ ex) ++ REST)) F8 (cb_drop N8 ?_) ?_ ⟨its3, n3, extra ++ ex, rfl, rfl, rfl, rfl, rfl, rfl, ?_, ?_, ?_⟩
            · intro q hq
              rw [List.cons_append, List.append_assoc, List.append_assoc] at hq
              rcases List.mem_cons.mp hq with rfl | hq
              · exact .head _
              rcases List.mem_append.mp hq with h | h
              · exact .tail _ (List.mem_append_left _ h)
              · have h2 := hZall q (.tail _ (by rw [List.append_assoc]; exact h))
                rcases List.mem_cons.mp h2 with h3 | h3
                · exfalso
                  have hne : q.1 ≠ ll := by
                    rcases List.mem_append.mp h with h | h
                    · exact neN (by have := (hex q h).1; omega)
                    rcases List.mem_append.mp h with h | h
                    · exact hoffD q h ll (.head _)
                    · exact hllo2 q h
                  exact hne (by rw [h3])
                · exact .tail _ (List.mem_append_right _ h3)
            · intro q hq b hb
              obtain ⟨r, hr, rfl⟩ := List.mem_map.mp hb
              rcases List.mem_cons.mp hr with rfl | hr
              · exact hoffN q hq ll (.head _)
              rw [List.append_assoc] at hr
              rcases List.mem_append.mp hr with h | h
              · exact neN (by have := hexc r h q (.tail _ (List.mem_append_right _ hq)); omega)
              · exact hoffN q hq r.1 (.tail _ (List.mem_map_of_mem h))
            · intro e he
              rcases List.mem_append.mp he with h | h
              · exact ⟨(hfr3 e h).1, fun q hq => hexc e h q (.tail _ (List.mem_append_left _ (List.mem_append_right _ hq)))⟩
              · exact hex e h
            · intro base rb
              rw [linksTo_succ, if_pos hle, List.append_assoc]
              exact hup3 _ (hrwc base rb)
            · rw [linksTo_succ, if_pos hle]
              exact K3.ok
          · rw [if_neg (by intro hx; have := of_decide_eq_true hx; omega)]
            k_steps
            with_reducible (rename Fr _ _ _ _ => F8)
            with_reducible (rename News _ _ _ _ => N8)
            refine turn_next (news₂ := (ll, W.listOf itl2.toArray nl2) :: (ex ++ REST)) F8 (cb_drop N8 (fun q hq => hZall q hq)) hoffN ⟨itl2, nl2, ex, rfl, rfl, rfl, rfl, rfl, rfl, hex, ?_, ?_⟩
            · rw [linksTo_succ, if_neg hle]; exact hrwc
            · rw [linksTo_succ, if_neg hle]; exact hok
        case rdone =>
          rintro m₁ news₁ h tk ⟨itl2, nl2, ex, e1, e2, e3, e4, e5, rfl, hex, hrwc, hok⟩ F₁ N₁
          rw [hysl] at hrwc hok
          have hrw := hrwc rest' R'.rows
          obtain ⟨extra, hxa, hxb, hxc⟩ := R'.ex
          rw [known e1, known e2, known e3, known e4, known e5] at F₁
          clear F4 N₂
          k_steps
          with_reducible (rename Fr _ _ _ _ => F8)
          have hledR : ∀ q ∈ led ++ (rest' ++ own), q ∈ REST := fun q hq => by rw [← hREST]; exact .tail _ (.tail _ hq)
          have hHDR : (HD, W.listOf (hts ++ [Value.int (sz : Int) t]).toArray (kh + 1)) ∈ REST := by rw [← hREST]; exact .head _
          refine turn_next (news₂ := (HD, W.listOf (hts ++ [Value.int (sz : Int) t]).toArray (kh + 1)) :: (ll, W.listOf itl2.toArray nl2) :: (ex ++ rest')) F8 (cb_drop N₁ ?_) ?_
            ⟨h1n, j + 1, _, ty, hts ++ [Value.int (sz : Int) t], kh + 1, itl2, nl2, ex ++ rest', turnG nn (j * sz + sz) G', by omega, rfl, rfl, rfl, rfl, rfl, ?_, ints_more t hints, rfl, ⟨fun q hq => List.mem_append_right _ (R'.sub q hq), R'.hdr.mono fun q hq => List.mem_append_right _ hq, hrw, hok, ?_, R'.ne, ⟨ex ++ extra, by rw [hxa, List.append_assoc], ?_, fun base rb => by rw [List.append_assoc]; exact hrwc _ (hxc base rb)⟩⟩, hN'.next hn hjk h1n hb⟩
          · intro q hq
            rw [List.cons_append, List.cons_append] at hq
            rcases List.mem_cons.mp hq with rfl | hq
            · exact .tail _ (List.mem_append_right _ hHDR)
            rcases List.mem_cons.mp hq with rfl | hq
            · exact .head _
            rw [List.append_assoc] at hq
            rcases List.mem_append.mp hq with h | h
            · exact .tail _ (List.mem_append_left _ h)
            · exact .tail _ (List.mem_append_right _ (hledR q (List.mem_append_right _ h)))
          · intro q hq b hb
            obtain ⟨r, hr, rfl⟩ := List.mem_map.mp hb
            rcases List.mem_cons.mp hr with rfl | hr
            · exact (hoH _ (List.mem_map_of_mem hq)).1
            rcases List.mem_cons.mp hr with rfl | hr
            · exact (hoH _ (List.mem_map_of_mem hq)).2
            rcases List.mem_append.mp hr with h | h
            · exact neN (by have := (hex r h).2 q (hledR q (List.mem_append_right _ (List.mem_append_right _ hq))); omega)
            · exact hoff' q hq r.1 (.tail _ (.tail _ (List.mem_map_of_mem h)))
          · rw [Nat.succ_mul]; exact hpy
          · intro q hq
            rcases List.mem_append.mp hq with h | h
            · exact ⟨neN (by have := (hex q h).1; omega), neN (by have := (hex q h).2 _ hHDR; omega)⟩
            · exact R'.off q h
          · intro e he q hq
            rcases List.mem_append.mp he with h | h
            · exact (hex e h).2 q (hledR q (List.mem_append_right _ (List.mem_append_left _ (R'.sub q hq))))
            · exact hxb e h q hq
theorem tLay {o l ol ll : Addr} {nw nl nn x sz f : Nat} {its itl : List Value} {G : List (Nat × Nat)} {N₁ : Int} {t u : Tok} {rest : List (Addr × Obj)} (B : Below A₀ base [] h₀) (F : Fr h₀ L s.heap m) (X : (Mine.hd.heap_39 w.params).In h₀) (N : News h₀ L s.heap ((ll, W.listOf itl.toArray nl) :: rest)) (T : Top p loose mean mg mb h₀) (hk : cs.kind = .function) (XB : (Mine.hd.heap_39 w.params).In base) (TB : Top p loose mean mg mb base)
  (hd : dp + 6 < recursionLimit) (hu : un + 48 < cLine) (hz : 2 + N₁.fmod 5 = (sz : Int)) (hf : (N₁.fdiv 5).fmod 8 = (f : Int)) (hx : (N₁.fdiv 40).fmod 3 = (x : Int)) (hf8 : f < 8) (hx3 : x < 3) (hz2 : 2 ≤ sz) (hz6 : sz ≤ 6) (hn1 : 1 ≤ nn) (hn : nn ≤ 10)
  (ho : HdrAt rest o l) (hl : (l, W.listOf its.toArray nw) ∈ rest) (hrows : RowsAre rest its (rowsAt nn 0))
  (K : LinksAt ((ll, W.listOf itl.toArray nl) :: rest) ol ll itl nl G) (hR : HdrAt rest ol ll ∧ RowsAre rest itl (lk G)) (hoff : OwnOff rest [ll])
  (hps : ∀ q ∈ rowsAt nn 0, CleanS q.1 ∧ CleanS q.2) (hrl : (rowsAt nn 0).length ≤ 50) (hpl : (pageS (rowsAt nn 0)).length ≤ 1000)
  (hbr : AllBare s.gens) (hgl : G.length ≤ 200) (hGok : Gok G)
  (hno : f = 6 → ∀ h' tk' Gn, Fr h₀ L h' m → News h₀ L h' ((ll, W.listOf itl.toArray nl) :: rest) → AllBare Gn → Q .none { s with heap := h', toks := tk', gens := Gn })
  (hret : f ≠ 6 → ∀ HD hts kh itl' nl' rest' G' h' tk' Gn, Fr h₀ L h' m → News h₀ L h' ((HD, W.listOf (List.toArray hts) kh) :: (ll, W.listOf (List.toArray itl') nl') :: rest') → LayRest rest rest' ol ll HD itl G itl' G' → IntsAre hts (List.replicate (manyOf f sz nn).toNat (sz : Int)) → G' = layG nn sz (capTot f sz nn) 0 G → AllBare Gn → Q (.ref HD) { s with heap := h', toks := tk', gens := Gn }) :
  wpAny (model PySem.Challenge.rw_st0018_01.row.prog w) (ktrTop dp un gd cn cs L a ccd cl []) (call (.ref 246) [.ref o, .ref ol, .int N₁ t, .int nn u]) Q E s := by
  by_cases hf6 : f = 6
  · exact tLay6 B F X N T hk XB TB hd hu hz hf hx hf8 hx3 hf6 ho hl hrows hps hrl hpl hbr (hno hf6)
  · exact tLayN B F X N T hk hd hu hz hf hx hf8 hx3 hz2 hz6 hn1 hn ho hl hrows K hR hoff hps hrl hpl hbr hgl hGok hf6 hret
end Mine
end

section
open PySem PySem.W PyProof.Rows PySem.Calls
/-- the walker's notes of the text before are put away -/
theorem Mine.freshCi {prog : Program} {w : World} {A : Around} {env : Env} {Q : Flow → Shared → Prop} {E : Value → Shared → Prop} {s : Shared} (h : Q .next s) : wpAny (model prog w) A (execs [] env) Q E s := by
  w_on
  w_top off
  k_with_none
  walk1
  exact h
end
section
open PySem PySem.W PySem.W.X PyProof.Rows PySem.Calls PySem.Spec
set_option maxRecDepth 100000
set_option linter.all false
namespace Mine
section
variable {prog : Program} {w : World} {A : Around} {E : Value → Shared → Prop} {s : Shared} {env : Env} {h₀ : Heap} {L : Addr} {m : Str → Option Value} {news : List (Addr × Obj)}
theorem restU_ind {elt : Expr} {x : Str} {scope : Scope} {cl : List (Str × Addr)} {S : List (Addr × Obj) → Prop} {P : Nat → Value → Prop} {Fin : List Value → List (Addr × Obj) → Prop} (Inv : Nat → List Value → List (Addr × Obj) → Prop) {n : Nat} (h0 : Inv 0 [] news)
    (fin : ∀ ys news', Inv n ys news' → Fin ys news')
    (turn : ∀ i ys news' k, i < n → Inv i ys news' → (∀ ys' news'', Inv (i + 1) ys' news'' → LCg.CompRest prog w A h₀ L m env elt x scope cl s S P Fin k (i + 1) ys' news'') → LCg.CompRest prog w A h₀ L m env elt x scope cl s S P Fin (k + 1) i ys news') :
    LCg.CompRest prog w A h₀ L m env elt x scope cl s S P Fin n 0 [] news := by
  have key : ∀ k i ys news', i + k = n → Inv i ys news' → LCg.CompRest prog w A h₀ L m env elt x scope cl s S P Fin k i ys news' := by
    intro k
    induction k with
    | zero =>
      intro i ys news' e hI
      have : i = n := by omega
      subst this
      exact fin ys news' hI
    | succ k ih =>
      intro i ys news' e hI
      exact turn i ys news' k (by omega) hI fun ys' news'' hI' => ih (i + 1) ys' news'' (by omega) hI'
  exact key n 0 [] news (by omega) h0
theorem restP_ind {elt : Expr} {x x₂ : Str} {scope : Scope} {cl : List (Str × Addr)} {S : List (Addr × Obj) → Prop} {P : Nat → Value → Prop} {Fin : List Value → List (Addr × Obj) → Prop} (Inv : Nat → List Value → List (Addr × Obj) → Prop) {n : Nat} (h0 : Inv 0 [] news)
    (fin : ∀ ys news', Inv n ys news' → Fin ys news')
    (turn : ∀ i ys news' k, i < n → Inv i ys news' → (∀ ys' news'', Inv (i + 1) ys' news'' → LCp.CompRestP prog w A h₀ L m env elt x x₂ scope cl s S P Fin k (i + 1) ys' news'') → LCp.CompRestP prog w A h₀ L m env elt x x₂ scope cl s S P Fin (k + 1) i ys news') :
    LCp.CompRestP prog w A h₀ L m env elt x x₂ scope cl s S P Fin n 0 [] news := by
  have key : ∀ k i ys news', i + k = n → Inv i ys news' → LCp.CompRestP prog w A h₀ L m env elt x x₂ scope cl s S P Fin k i ys news' := by
    intro k
    induction k with
    | zero =>
      intro i ys news' e hI
      have : i = n := by omega
      subst this
      exact fin ys news' hI
    | succ k ih =>
      intro i ys news' e hI
      exact turn i ys news' k (by omega) hI fun ys' news'' hI' => ih (i + 1) ys' news'' (by omega) hI'
  exact key n 0 [] news (by omega) h0
end
theorem three {vs : List Value} {xs : List Int} (h : IntsAre vs xs) (h3 : xs.length = 3) (hp : ∀ x ∈ xs, 0 ≤ x) : ∃ a b c t0 t1 t2, vs = [Value.int a t0, .int b t1, .int c t2] ∧ 0 ≤ a ∧ 0 ≤ b ∧ 0 ≤ c := by
  cases h with
  | nil => cases h3
  | cons a t0 h =>
    cases h with
    | nil => cases h3
    | cons b t1 h =>
      cases h with
      | nil => cases h3
      | cons c t2 h =>
        cases h with
        | nil => exact ⟨a, b, c, t0, t1, t2, rfl, hp _ (by simp), hp _ (by simp), hp _ (by simp)⟩
        | cons d t3 h => simp at h3
theorem endG {c : ClaimW} {cl : Str → Option Addr} {mean : ExcName → Option Value} {args : List WData} {s₁ : Shared} {h : Heap} {g : Array GenState} {d : Drawn} {t : Nat} {b : Bool} {L : Addr} {m : Str → Option Value}
    (F : Fr s₁.heap L h m) (hr : ∀ cls, c.raises args cls = false) (hp : c.post args (.bool b) args = true) (hb : AllBare g) :
    GoodWG c cl mean args s₁ (.ok (.ret (.bool b))) ⟨h, g, d, t, s₁.os⟩ :=
  ⟨.inl ⟨_, _, [], rfl, hr, ReadsW.bool b, hp, fun _ => ⟨List.nodup_nil, fun _ hm => (nomatch hm)⟩⟩, OldK.of_keep F.keep, rfl, hb⟩
theorem num_n (a : Int) : ∃ n : Nat, 1 + a.fmod 10 = (n : Int) ∧ 1 ≤ n ∧ n ≤ 10 := by
  have h1 : 0 ≤ a.fmod 10 := Int.fmod_nonneg_of_pos a (by decide)
  have h2 : a.fmod 10 < 10 := Int.fmod_lt_of_pos a (by decide)
  exact ⟨(1 + a.fmod 10).toNat, by omega, by omega, by omega⟩
end Mine
end

section
open PySem PySem.W PyProof.Rows PySem.Calls
/-- the walker's notes of the text before are put away -/
theorem Mine.freshCk {prog : Program} {w : World} {A : Around} {env : Env} {Q : Flow → Shared → Prop} {E : Value → Shared → Prop} {s : Shared} (h : Q .next s) : wpAny (model prog w) A (execs [] env) Q E s := by
  w_on
  w_top off
  k_with_none
  walk1
  exact h
end
section
open PySem PySem.W PySem.W.X PyProof.Rows PySem.Calls
set_option maxRecDepth 100000
set_option maxHeartbeats 8000000
set_option linter.all false
namespace Mine
variable {w : World} {p : Program} {loose : List Str} {mean : ExcName → Option Value} {mg mb : Str → Option Value}
  {dp un : Nat} {gd : Option (List Code)} {cn : Str} {cs : Scope} {a : Addr} {ccd : Value} {cl : List (Str × Addr)} {outer : List Env} {A₀ : Around} {base h₀ : Heap} {L : Addr} {m : Str → Option Value} {news : List (Addr × Obj)} {s : Shared} {Q E : Value → Shared → Prop}
theorem toldCk_1 : True := by
  k_with "k_mem" => (refine List.mem_cons_of_mem _ ?_; k_mem)
  trivial
theorem toldCk_2 : True := by
  k_with "ktr_units" => (have hcL9 := cLine_is; ((try simp only [units_under_make, units_in1, units_deeper, Around.mark_units, units_caller] at *); (try dsimp only [ktrTop] at *); omega))
  trivial

theorem use_sums {l : Addr} {vs : List Value} {ns : List Int} (B : Below A₀ base outer h₀) (F : Fr h₀ L s.heap m) (X : (Mine.hd.heap_39 w.params).In h₀) (N : News h₀ L s.heap news) (T : Top p loose mean mg mb h₀) (hk : cs.kind = .function)
  (hd : dp + 1 < recursionLimit) (hu : un + 8 < cLine) (hl : h₀.IsList l vs.toArray) (hi : IntsAre vs ns) (hlen : ns.length ≤ 65536)
  (hret : ∀ D x y z t0 t1 t2 k h' tk', Fr h₀ L h' m → News h₀ L h' ((D, W.listOf #[Value.int x t0, .int y t1, .int z t2] k) :: news) → 0 ≤ x → 0 ≤ y → 0 ≤ z → Q (.ref D) { s with heap := h', toks := tk' }) :
  wpAny (model PySem.Challenge.rw_st0018_01.row.prog w) (ktrTop dp un gd cn cs L a ccd cl outer) (call (.ref 213) [.ref l]) Q E s := by
  refine tSums B F X N T hk hd hu hl hi hlen fun D its xs k h' tk' F' N' hx h3 hp => ?_
  obtain ⟨x, y, z, t0, t1, t2, rfl, p1, p2, p3⟩ := three hx h3 hp
  exact hret D x y z t0 t1 t2 k h' tk' F' N' p1 p2 p3
theorem off_of {d : Nat} {news : List (Addr × Obj)} (h : ∀ q ∈ news, @LT.lt Nat _ q.1 d) : OwnOff news [d] := fun q hq b hb => by
  rw [List.mem_singleton.mp hb]
  have := h q hq
  exact neN (by omega)
theorem use_newL {l c : Addr} {oc : Obj} {n : Nat} {its : List Value} {ps : List (Str × Str)} (B : Below A₀ base outer h₀) (F : Fr h₀ L s.heap m) (X : (Mine.hd.heap_39 w.params).In h₀) (N : News h₀ L s.heap news) (T : Top p loose mean mg mb h₀) (hk : cs.kind = .function)
  (hd : dp + 3 < recursionLimit) (hu : un + 40 < cLine) (hl : (l, W.listOf its.toArray n) ∈ news) (hrows : RowsAre news its ps) (hps : ∀ q ∈ ps, CleanS q.1 ∧ CleanS q.2) (hc : (c, oc) ∈ news)
  (hret : ∀ o news' h' tk', Fr h₀ L h' m → News h₀ L h' news' → HdrAt news' o l → (∀ q ∈ news, q ∈ news') → (c, oc) ∈ news' → Q (.ref o) { s with heap := h', toks := tk' }) :
  wpAny (model PySem.Challenge.rw_st0018_01.row.prog w) (ktrTop dp un gd cn cs L a ccd cl outer) (call (.ref 202) [.ref l]) Q E s := by
  revert X
  k_fill
  intro X
  refine call_cls F X N (by k_is) (by k_is) (by k_is) fun x dx h' F' N' h1 h2 => ?_
  refine tInit (nd := 0) B F' X N' T hk hd (by omega) hl hrows hps h2 (off_of h1) fun news' h2 tk2 F2 N2 hH hsub => ?_
  exact ⟨rfl, hret x news' h2 tk2 F2 N2 hH hsub (hsub _ hc)⟩
theorem use_new0 {c : Addr} {oc : Obj} {v₀ : Option Value} (B : Below A₀ base outer h₀) (F : Fr h₀ L s.heap m) (X : (Mine.hd.heap_39 w.params).In h₀) (N : News h₀ L s.heap news) (T : Top p loose mean mg mb h₀) (hk : cs.kind = .function)
  (hd : dp + 3 < recursionLimit) (hu : un + 40 < cLine) (hc : (c, oc) ∈ news) (hoc : oc.data = .cell v₀)
  (hret : ∀ ol ll R h' tk', Fr h₀ L h' m → News h₀ L h' ((c, oc) :: (ll, W.listOf #[] 0) :: R) → OwnOff R [c] → OwnOff R [ll] → ll ≠ c → HdrAt R ol ll → (∀ q ∈ news, q.2 ≠ W.listOf #[] 0 → (∀ v, q.2.data ≠ .cell v) → q ∈ R) → Q (.ref ol) { s with heap := h', toks := tk' }) :
  wpAny (model PySem.Challenge.rw_st0018_01.row.prog w) (ktrTop dp un gd cn cs L a ccd cl outer) (call (.ref 202) []) Q E s := by
  revert X
  k_fill
  intro X
  refine call_cls F X N (by k_is) (by k_is) (by k_is) fun x dx h' F' N' h1 h2 => ?_
  refine tInit0 B F' X N' T hk hd (by omega) h2 (off_of h1) fun l news' h2 tk2 F2 N2 hH hl hsub => ?_
  have uni : ∀ q ∈ news', ∀ q' ∈ news', q.1 = q'.1 → q.2 = q'.2 := fun q hq q' hq' e => by
    have e1 := (N2 q hq).1
    rw [e, (N2 q' hq').1] at e1
    exact (Option.some.inj e1).symm
  have hcm := hsub _ hc
  have hlc : l ≠ c := fun e => by
    have := congrArg Obj.data (uni _ hl _ hcm e)
    rw [hoc] at this
    cases this
  refine ⟨rfl, hret x l (news'.filter fun q => decide (q.1 ≠ l ∧ q.1 ≠ c)) h2 tk2 F2 ?_ ?_ ?_ hlc ?_ ?_⟩
  · intro q hq
    rcases List.mem_cons.mp hq with rfl | hq
    · exact N2 _ hcm
    rcases List.mem_cons.mp hq with rfl | hq
    · exact N2 _ hl
    · exact N2 q (List.mem_filter.mp hq).1
  · intro q hq b hb
    rw [List.mem_singleton.mp hb]
    exact (of_decide_eq_true (List.mem_filter.mp hq).2).2
  · intro q hq b hb
    rw [List.mem_singleton.mp hb]
    exact (of_decide_eq_true (List.mem_filter.mp hq).2).1
  · obtain ⟨d, hh, th, nd, m1, m2⟩ := hH.ex
    refine ⟨⟨d, hh, th, nd, List.mem_filter.mpr ⟨m1, decide_eq_true ⟨fun e => ?_, fun e => ?_⟩⟩, List.mem_filter.mpr ⟨m2, decide_eq_true ⟨fun e => ?_, fun e => ?_⟩⟩⟩⟩
    · have := congrArg Obj.data (uni _ m1 _ hl e); cases this
    · have := congrArg Obj.data (uni _ m1 _ hcm e); rw [hoc] at this; cases this
    · have := congrArg Obj.data (uni _ m2 _ hl e); cases this
    · have := congrArg Obj.data (uni _ m2 _ hcm e); rw [hoc] at this; cases this
  · intro q hq h3 h4
    exact List.mem_filter.mpr ⟨hsub q hq, decide_eq_true ⟨fun e => h3 (uni _ (hsub q hq) _ hl e), fun e => h4 v₀ (by rw [uni _ (hsub q hq) _ hcm e]; exact hoc)⟩⟩
theorem mul_dots {i : Nat} (h : i < 10) : Txt.mul (PySem.Str.ofString ".") (0 + (i : Int) + 1) = dotS (i + 1) := by
  have : ∀ k : Fin 10, Txt.mul (PySem.Str.ofString ".") (0 + ((k.val : Nat) : Int) + 1) = dotS (k.val + 1) := by decide +kernel
  exact this ⟨i, h⟩
theorem chr_ltr {i : Nat} : ({ cps := #[((97 : Int) + (0 + (i : Int))).toNat] } : Str) = ltr i := by
  have : ((97 : Int) + (0 + (i : Int))).toNat = 97 + i := by omega
  rw [this]; rfl
theorem rowsAt_succ (i : Nat) : rowsAt (i + 1) 0 = rowsAt i 0 ++ [(dotS (i + 1), ltr i)] := by
  unfold rowsAt
  rw [List.range_succ, List.map_append]
  rfl
theorem drawn_end {h₀ h' : Heap} {L I C D D2 : Addr} {m : Str → Option Value} {s₁ : Shared} {oI oC : Obj} {ys : List Value} {news' base : List (Addr × Obj)} {t u n i tk : Nat} {rest : List Value → List (Addr × Obj) → Prop}
    (F3 : Fr h₀ L h' m) (N3 : News h₀ L h' ((D2, tupObj (dotS (i + 1)) t (ltr i) u n) :: (I, oI) :: (C, oC) :: (D, LCg.lst ys) :: news')) (l1 : @LT.lt Nat _ I D2 ∧ @LT.lt Nat _ C D2 ∧ @LT.lt Nat _ D D2 ∧ AllLt D2 news') (o3 : LCg.Off3 I C D news') (hg : Grew base news') (hr : RowsAre news' ys (rowsAt i 0))
    (ih : ∀ ys' news'', Grew base news'' ∧ RowsAre news'' ys' (rowsAt (i + 1) 0) → rest ys' news'') :
    LCg.CompEnd h₀ L m s₁ I oI C oC D (LCg.lst ys) (fun _ => True) (fun y news'' => rest (ys ++ [y]) news'') (.ref D2) { s₁ with heap := h', toks := tk } := by
  have hall := allLt_all l1.2.2.2
  refine LCg.CompEnd.intro F3 N3 ((D2, tupObj (dotS (i + 1)) t (ltr i) u n) :: news') ?_ ?_ trivial (ih _ _ ⟨hg.cons fun q hq => hall q (hg.sub q hq), ?_⟩)
  · intro q hq
    rcases List.mem_cons.mp hq with rfl | hq
    · exact .tail _ (.head _)
    rcases List.mem_cons.mp hq with rfl | hq
    · exact .tail _ (.tail _ (.head _))
    rcases List.mem_cons.mp hq with rfl | hq
    · exact .tail _ (.tail _ (.tail _ (.head _)))
    rcases List.mem_cons.mp hq with rfl | hq
    · exact .head _
    · exact .tail _ (.tail _ (.tail _ (.tail _ hq)))
  · exact ⟨⟨neN (by show @Ne Nat D2 I; omega), neN (by show @Ne Nat D2 C; omega), neN (by show @Ne Nat D2 D; omega)⟩, o3⟩
  · rw [rowsAt_succ]
    exact rows_snoc (hr.mono fun _ hp => .tail _ hp) (.head _)
theorem clean_dots {m : Nat} (h : m ≤ 20) : CleanS (dotS m) := by
  refine ⟨by have := dotS_len m; show (dotS m).length ≤ _; omega, fun k hk => ?_⟩
  have hk' : k < m := by have := dotS_len m; have h2 : k < (dotS m).length := hk; omega
  have : (dotS m).cps.getD k 0 = 46 := by
    unfold dotS
    simp [hk']
  rw [this]
  decide
theorem rows_clean {n : Nat} (h : n ≤ 10) : ∀ q ∈ rowsAt n 0, CleanS q.1 ∧ CleanS q.2 := by
  intro q hq
  unfold rowsAt at hq
  obtain ⟨k, hk, rfl⟩ := List.mem_map.mp hq
  have := List.mem_range.mp hk
  exact ⟨clean_dots (by omega), clean_ltr (by omega)⟩
theorem page_len {n : Nat} (h : n ≤ 10) : (pageS (rowsAt n 0)).length ≤ 1000 := by
  have e : (pageS (rowsAt n 0)).cps.toList.length ≤ 1000 := by
    have := pg_eq n 0
    unfold pg at this
    rw [this]
    have h1 := pgE_len [13, 10] 0 (List.range n) (fun k hk => by have := List.mem_range.mp hk; omega)
    rw [List.length_range] at h1
    have h2 : n * (13 + 0 + [13, 10].length) ≤ 10 * 15 := Nat.mul_le_mul h (by decide)
    have h3 : ([13, 10] : List Nat).length = 2 := rfl
    omega
  rw [Array.length_toList] at e
  exact e
theorem storeC {M : Model} {A : Around} {E : Value → Shared → Prop} {s : Shared} {h₀ : Heap} {L a : Addr} {m : Str → Option Value} {cn : Str} {cs : Scope} {ccd : Value} {cl : List (Str × Addr)}
    {x : Str} {v : Value} {Q : Unit → Shared → Prop} {rest : List (Addr × Obj)} {c : Addr} {o : Obj} {v₀ : Option Value} (F : Fr h₀ L s.heap m) (N : News h₀ L s.heap ((c, o) :: rest)) (hc : cl.lookup x = some c) (off : ∀ q ∈ rest, q.1 ≠ c) (hd : o.data = .cell v₀)
    (h : ∀ h' o', Fr h₀ L h' m → News h₀ L h' ((c, o') :: rest) → o'.data = .cell (some v) → Q () { s with heap := h' })
    (hk : cs.kind = .function := by rfl) (hx : (envX cn cs L a ccd cl).kindOf x = some .cell := by rfl) : wpAny M A (storeName (envX cn cs L a ccd cl) x v) Q E s := by
  have hmem := N (c, o) (.head _)
  refine wpAny_storeName_cell hk hx hc ⟨o, hmem.1, hd⟩ fun h' hv hs => ?_
  obtain ⟨o', ho', hd'⟩ := hv
  refine h h' o' ⟨F.ns.sameBut hs (Ne.symm hmem.2.1), fun b ob e => (hs.2 b (fun q => ?_)).trans (F.keep b ob e), F.above⟩ (fun q hq => ?_) hd'
  · rw [q, hmem.2.2] at e; cases e
  · rcases List.mem_cons.mp hq with rfl | hq
    · exact ⟨ho', hmem.2⟩
    · exact ⟨(hs.2 _ (off q hq)).trans (N q (.tail _ hq)).1, (N q (.tail _ hq)).2⟩
theorem hdr_names {R : List (Addr × Obj)} {ol ll : Addr} (h : HdrAt R ol ll) : ∃ R' o' l', R' = R ∧ o' = ol ∧ l' = ll := ⟨_, _, _, rfl, rfl, rfl⟩
theorem hdr_in {news R : List (Addr × Obj)} {o l : Addr} (h : HdrAt news o l) (h5 : ∀ q ∈ news, q.2 ≠ W.listOf #[] 0 → (∀ v, q.2.data ≠ .cell v) → q ∈ R) : HdrAt R o l := by
  obtain ⟨d, hh, th, nd, h1, h2⟩ := h.ex
  exact ⟨d, hh, th, nd, h5 _ h1 (fun e => by have := congrArg Obj.data e; cases this) (fun v e => by cases e), h5 _ h2 (fun e => by have := congrArg Obj.data e; cases this) (fun v e => by cases e)⟩
theorem rows_in {news R : List (Addr × Obj)} {its : List Value} {ps : List (Str × Str)} (h : RowsAre news its ps) (h5 : ∀ q ∈ news, q.2 ≠ W.listOf #[] 0 → (∀ v, q.2.data ≠ .cell v) → q ∈ R) : RowsAre R its ps :=
  ⟨h.len, fun i v hv => by
    obtain ⟨b, k, x, t, u, n, h1, h2, h3⟩ := h.at_ i v hv
    exact ⟨b, k, x, t, u, n, h1, h2, h5 _ h3 (fun e => by have := congrArg Obj.cls e; injection this with h; exact absurd h (by decide)) (fun v e => by cases e)⟩⟩
def szN (num : Int) : Nat := (2 + num.fmod 5).toNat
def fN (num : Int) : Nat := ((num.fdiv 5).fmod 8).toNat
def xN (num : Int) : Nat := ((num.fdiv 40).fmod 3).toNat
def capN (nn : Nat) (num : Int) : Nat := capTot (fN num) (szN num) nn
def numAt (y z : Int) (i : Nat) : Int := if i = 0 then y else z
def stepN (nn : Nat) (num : Int) : Nat := stepOf nn (szN num) (capN nn num)
def Gs (nn : Nat) (y z : Int) : Nat → List (Nat × Nat)
  | 0 => []
  | i + 1 => layG nn (szN (numAt y z i)) (capN nn (numAt y z i)) 0 (Gs nn y z i)
theorem num_parts (num : Int) : 2 + num.fmod 5 = (szN num : Int) ∧ 2 ≤ szN num ∧ szN num ≤ 6 ∧ (num.fdiv 5).fmod 8 = (fN num : Int) ∧ fN num < 8 ∧ (num.fdiv 40).fmod 3 = (xN num : Int) ∧ xN num < 3 := by
  have a1 : 0 ≤ num.fmod 5 := Int.fmod_nonneg_of_pos num (by decide)
  have a2 : num.fmod 5 < 5 := Int.fmod_lt_of_pos num (by decide)
  have b1 : 0 ≤ (num.fdiv 5).fmod 8 := Int.fmod_nonneg_of_pos _ (by decide)
  have b2 : (num.fdiv 5).fmod 8 < 8 := Int.fmod_lt_of_pos _ (by decide)
  have c1 : 0 ≤ (num.fdiv 40).fmod 3 := Int.fmod_nonneg_of_pos _ (by decide)
  have c2 : (num.fdiv 40).fmod 3 < 3 := Int.fmod_lt_of_pos _ (by decide)
  unfold szN fN xN
  refine ⟨by omega, by omega, by omega, by omega, by omega, by omega, by omega⟩
theorem layG_len (n sz : Nat) (hn : n ≤ 10) : ∀ (c o : Nat) (G : List (Nat × Nat)), (layG n sz c o G).length ≤ G.length + 10 * c
  | 0, _, G => by show G.length ≤ _; omega
  | c + 1, o, G => by
    show (if n < 1 + (o + sz) then G else layG n sz c (o + sz) (turnG n (o + sz) G)).length ≤ _
    split
    · omega
    · have h1 := layG_len n sz hn c (o + sz) (turnG n (o + sz) G)
      have h2 := turnG_len (o := o + sz) (G := G) hn
      omega
theorem capTot_le {f sz n : Nat} (hz : 2 ≤ sz) (hn : n ≤ 10) : capTot f sz n ≤ 10 := by
  unfold capTot
  split
  · have : (n - 1) / sz ≤ n - 1 := Nat.div_le_self _ _
    generalize (n - 1) / sz = q at *
    omega
  · unfold capOf
    match f with
    | 0 => decide
    | 1 => decide
    | 2 => decide
    | 3 => decide
    | 4 => decide
    | 5 => decide
    | 6 => decide
    | 7 => decide
    | k + 8 => exact Nat.zero_le _
theorem many_step {f sz n : Nat} (hf8 : f < 8) (hf6 : f ≠ 6) (h1 : 1 ≤ n) : 0 ≤ manyOf f sz n ∧ (stepOf n sz (capTot f sz n) = if (manyOf f sz n).toNat = 0 then n else sz) := by
  have e := many_fdiv (sz := sz) h1
  have h8 : f = 0 ∨ f = 1 ∨ f = 2 ∨ f = 3 ∨ f = 4 ∨ f = 5 ∨ f = 7 := by omega
  have hc0 : capTot 0 sz n = (n - 1) / sz + 1 := rfl
  have hc3 : capTot 3 sz n = (n - 1) / sz + 1 := rfl
  have e0 : manyOf 0 sz n = ((n : Int) - 1).fdiv sz + 1 := rfl
  have e3 : manyOf 3 sz n = ((n : Int) - 1).fdiv sz + 1 := rfl
  have e4 : manyOf 4 sz n = if ((n : Int) - 1).fdiv sz + 1 < 2 then ((n : Int) - 1).fdiv sz + 1 else 2 := rfl
  rw [e] at e0 e3 e4
  rw [show (n - 1) / sz + 1 = (n - 1) / sz + 1 from rfl] at e0
  generalize (n - 1) / sz = q at *
  have hq : stepOf n sz (q + 1) = sz := by unfold stepOf; rw [if_neg (by omega)]
  rcases h8 with rfl | rfl | rfl | rfl | rfl | rfl | rfl
  · rw [e0, hc0, hq]
    refine ⟨by omega, ?_⟩
    rw [if_neg (by omega)]
  · exact ⟨by show (0 : Int) ≤ 1; decide, rfl⟩
  · exact ⟨by show (0 : Int) ≤ 1; decide, rfl⟩
  · rw [e3, hc3, hq]
    refine ⟨by omega, ?_⟩
    rw [if_neg (by omega)]
  · rw [e4]
    show _ ∧ sz = _
    constructor
    · split <;> omega
    · rw [if_neg]
      split <;> omega
  · exact ⟨by show (0 : Int) ≤ 1; decide, rfl⟩
  · exact ⟨by show (0 : Int) ≤ 0; decide, rfl⟩
theorem cap_in {f sz n : Nat} (hf8 : f < 8) : capTot f sz n ∈ cnts n sz := by
  unfold cnts
  have h8 : f = 0 ∨ f = 1 ∨ f = 2 ∨ f = 3 ∨ f = 4 ∨ f = 5 ∨ f = 6 ∨ f = 7 := by omega
  rcases h8 with rfl | rfl | rfl | rfl | rfl | rfl | rfl | rfl
  · show (n - 1) / sz + 1 ∈ _; simp
  · show 1 ∈ _; simp
  · show 1 ∈ _; simp
  · show (n - 1) / sz + 1 ∈ _; simp
  · show 2 ∈ _; simp
  · show 1 ∈ _; simp
  · show 0 ∈ _; simp
  · show 0 ∈ _; simp
/-- between the numbers -/
inductive LawJ (nn : Nat) (y z : Int) (o ol ll S cell D : Addr) (oc : Obj) (R : List (Addr × Obj)) (i : Nat) (m₁ : Str → Option Value) (news₁ : List (Addr × Obj)) : Prop
  | mk (sv : List Value) (ks : Nat) (itl : List Value) (nl : Nat) (R' : List (Addr × Obj)) (x0 : m₁ "word" = some (.ref o)) (x1 : (∃ tn, m₁ "n" = some (.int nn tn))) (x2 : m₁ "steps" = some (.ref S)) (x3 : m₁ "drawn" = some (.ref D)) (x4 : IntsAre sv ((List.range i).map fun j => ((stepN nn (numAt y z j) : Nat) : Int))) (x5 : news₁ = (ll, W.listOf itl.toArray nl) :: (S, W.listOf sv.toArray ks) :: (cell, oc) :: R') (x6 : (∀ q ∈ R, q ∈ R')) (x7 : HdrAt R' ol ll) (x8 : RowsAre R' itl (lk (Gs nn y z i))) (x9 : Gok (Gs nn y z i)) (x10 : (Gs nn y z i).length ≤ 100 * i) (x11 : (∀ q ∈ R', q.1 ≠ ll ∧ q.1 ≠ S)) : LawJ nn y z o ol ll S cell D oc R i m₁ news₁
theorem Gs_len {nn : Nat} {y z : Int} {i : Nat} (hn : nn ≤ 10) (h : (Gs nn y z i).length ≤ 100 * i) : (Gs nn y z (i + 1)).length ≤ 100 * (i + 1) := by
  have h1 := layG_len nn (szN (numAt y z i)) hn (capN nn (numAt y z i)) 0 (Gs nn y z i)
  have h2 : capN nn (numAt y z i) ≤ 10 := capTot_le (num_parts (numAt y z i)).2.1 hn
  show (layG nn (szN (numAt y z i)) (capN nn (numAt y z i)) 0 (Gs nn y z i)).length ≤ _
  omega
theorem num_at {y z : Int} {t1 t2 : Tok} {i : Nat} {v : Value} (hv : [Value.int y t1, Value.int z t2][i]? = some v) : ∃ tv, v = .int (numAt y z i) tv := by
  match i with
  | 0 => exact ⟨t1, by simpa [numAt] using hv.symm⟩
  | 1 => exact ⟨t2, by simpa [numAt] using hv.symm⟩
  | k + 2 => simp at hv
theorem steps_snoc {nn : Nat} {y z : Int} {i : Nat} {sv : List Value} {v : Int} (t : Tok) (h : IntsAre sv ((List.range i).map fun j => ((stepN nn (numAt y z j) : Nat) : Int))) (hv : v = (stepN nn (numAt y z i) : Nat)) :
    IntsAre (sv ++ [Value.int v t]) ((List.range (i + 1)).map fun j => ((stepN nn (numAt y z j) : Nat) : Int)) := by
  rw [List.range_succ, List.map_append, hv]
  exact ints_snoc _ _ h
theorem lawJ_next {nn : Nat} {y z : Int} {o ol ll S cell D : Addr} {oc : Obj} {R R' extra : List (Addr × Obj)} {i : Nat} {m₂ : Str → Option Value} {sv : List Value} {ks nl : Nat} {itl : List Value} {v : Int} {t tn : Tok} (hn : nn ≤ 10)
    (e1 : m₂ "word" = some (.ref o)) (e2 : m₂ "n" = some (.int nn tn)) (e3 : m₂ "steps" = some (.ref S)) (e4 : m₂ "drawn" = some (.ref D))
    (hsv : IntsAre sv ((List.range i).map fun j => ((stepN nn (numAt y z j) : Nat) : Int))) (hv : v = (stepN nn (numAt y z i) : Nat)) (hsub : ∀ q ∈ R, q ∈ R') (hHR : HdrAt R' ol ll) (hlen : (Gs nn y z i).length ≤ 100 * i)
    (hoff : ∀ q ∈ R', q.1 ≠ ll ∧ q.1 ≠ S) (hex : ∀ e ∈ extra, e.1 ≠ ll ∧ e.1 ≠ S) (hrows : RowsAre (extra ++ R') itl (lk (Gs nn y z (i + 1)))) (hok : Gok (Gs nn y z (i + 1))) :
    LawJ nn y z o ol ll S cell D oc R (i + 1) m₂ ((ll, W.listOf itl.toArray nl) :: (S, W.listOf (sv ++ [Value.int v t]).toArray (ks + 1)) :: (cell, oc) :: (extra ++ R')) :=
  ⟨sv ++ [Value.int v t], ks + 1, itl, nl, extra ++ R', e1, ⟨tn, e2⟩, e3, e4, steps_snoc t hsv hv, rfl, fun q hq => List.mem_append_right _ (hsub q hq), hHR.mono fun q hq => List.mem_append_right _ hq, hrows, hok, Gs_len hn hlen, fun q hq => (List.mem_append.mp hq).elim (hex q) (hoff q)⟩
theorem ne_ints_same {prog : Program} {w : World} {A : Around} {E : Value → Shared → Prop} {s : Shared} {a b : Addr} {vs us : List Value} {ns : List Int} {Q : Value → Shared → Prop} (hl : s.heap.IsList a vs.toArray) (hi : IntsAre vs ns) (hl' : s.heap.IsList b us.toArray) (hi' : IntsAre us ns) (hu : A.units + 64 < cLine)
    (h : Q (.bool false) s) : wpAny (model prog w) A (compareOp .NotEq (.ref a) (.ref b)) Q E s := ne_intsK hl hi hl' hi' hu (by simpa using h)
theorem ints_split {vs : List Value} {c : Nat} {n : Int} (h : IntsAre vs (List.replicate c n)) : (c = 0 ∧ vs = []) ∨ (c ≠ 0 ∧ ∃ t vs', vs = Value.int n t :: vs') := by
  cases c with
  | zero =>
    have h' : IntsAre vs [] := h
    cases h'
    exact .inl ⟨rfl, rfl⟩
  | succ c =>
    have h' : IntsAre vs (n :: List.replicate c n) := h
    cases h' with
    | cons n t h2 => exact .inr ⟨by omega, t, _, rfl⟩
theorem step6 {nn : Nat} {num : Int} (h : fN num = 6) : capN nn num = 0 ∧ stepN nn num = nn := by
  have e : capN nn num = 0 := by unfold capN; rw [h]; rfl
  refine ⟨e, ?_⟩
  unfold stepN
  rw [e]; rfl
theorem truthy_none {prog : Program} {w : World} {A : Around} {E : Value → Shared → Prop} {s : Shared} {l : Addr} {Q : Bool → Shared → Prop} (hl : s.heap.IsList l (List.toArray [])) (h : Q false { s with toks := s.toks + 1 + 1 }) : wpAny (model prog w) A (truthy (.ref l)) Q E s :=
  wpAny_truthy_list hl (by decide) h
theorem truthy_some {prog : Program} {w : World} {A : Around} {E : Value → Shared → Prop} {s : Shared} {l : Addr} {v : Value} {vs : List Value} {Q : Bool → Shared → Prop} (hfit : (v :: vs).length ≤ 1000) (hl : s.heap.IsList l (v :: vs).toArray) (h : Q true { s with toks := s.toks + 1 + 1 }) : wpAny (model prog w) A (truthy (.ref l)) Q E s :=
  wpAny_truthy_list hl (by simp only [List.size_toArray]; omega) (by simpa using h)
theorem many_le {f sz n : Nat} (h1 : 1 ≤ n) (hn : n ≤ 10) : (manyOf f sz n).toNat ≤ 10 := by
  have e := many_fdiv (sz := sz) h1
  have h2 : (n - 1) / sz ≤ n - 1 := Nat.div_le_self _ _
  generalize (n - 1) / sz = q at *
  match f with
  | 0 => show (((n : Int) - 1).fdiv sz + 1).toNat ≤ 10; rw [e]; omega
  | 1 => show (1 : Int).toNat ≤ 10; decide
  | 2 => show (1 : Int).toNat ≤ 10; decide
  | 3 => show (((n : Int) - 1).fdiv sz + 1).toNat ≤ 10; rw [e]; omega
  | 4 => show (if ((n : Int) - 1).fdiv sz + 1 < 2 then ((n : Int) - 1).fdiv sz + 1 else 2 : Int).toNat ≤ 10; rw [e]; split <;> omega
  | 5 => show (1 : Int).toNat ≤ 10; decide
  | 6 => show (-1 : Int).toNat ≤ 10; decide
  | 7 => show (0 : Int).toNat ≤ 10; decide
  | k + 8 => exact Nat.zero_le _
theorem append_own {prog : Program} {w : World} {A : Around} {E : Value → Shared → Prop} {s : Shared} {h₀ : Heap} {L : Addr} {m : Str → Option Value} {D : Addr} {its : List Value} {n : Nat} {x : Value} {rest : List (Addr × Obj)} {Q : Value → Shared → Prop} (F : Fr h₀ L s.heap m) (N : News h₀ L s.heap ((D, W.listOf its.toArray n) :: rest)) (off : OwnOff rest [D]) (hlen : its.length ≤ 1000)
    (h : ∀ h', Fr h₀ L h' m → News h₀ L h' ((D, W.listOf (its ++ [x]).toArray (n + 1)) :: rest) → Q .none { s with heap := h' }) : wpAny (model prog w) A (call (.builtin "list.append") [.ref D, x]) Q E s := by
  refine append_K F N (.head fun q hq => off q hq D (.head _)) (fun h' F' N' => h h' F' ?_) (hsz := by rw [sizeLine_eq]; simp; omega)
  rw [show (its ++ [x]).toArray = its.toArray.push x from by simp]
  exact N'
theorem two_ints {nn : Nat} {y z : Int} {t t' : Tok} {sv : List Value} (h : IntsAre sv ((List.range [Value.int y t, Value.int z t'].length).map fun j => ((stepN nn (numAt y z j) : Nat) : Int))) : ∃ u0 u1, sv = [Value.int ((stepN nn y : Nat) : Int) u0, Value.int ((stepN nn z : Nat) : Int) u1] := by
  have h' : IntsAre sv [((stepN nn y : Nat) : Int), ((stepN nn z : Nat) : Int)] := h
  cases h' with
  | cons a u0 h =>
    cases h with
    | cons b u1 h => cases h; exact ⟨u0, u1, rfl⟩
theorem rep_getD {c : Nat} {n : Int} (h : c ≠ 0) : (List.replicate c n).getD (Int.toNat 0) 0 = n := by
  cases c with
  | zero => exact absurd rfl h
  | succ c => rfl
theorem last_tok {h₀ h : Heap} {L S : Addr} {sv : List Value} {v : Int} {t : Tok} {k : Nat} {rest : List (Addr × Obj)} (N : News h₀ L h ((S, W.listOf (sv ++ [Value.int v t]).toArray k) :: rest)) : ∃ t', t' = t := ⟨t, rfl⟩
def rowDat (n : Nat) : List PyData := (rowsAt n 0).map fun p => .tuple [.str p.1, .str p.2]
theorem rows_reads {h₀ h : Heap} {L : Addr} {news : List (Addr × Obj)} (N : News h₀ L h news) : ∀ {its : List Value} {ps : List (Str × Str)}, RowsAre news its ps → ∃ as, ReadsAll h its (ps.map fun p => PyData.tuple [.str p.1, .str p.2]) as
  | [], ps, r => by
    have := r.len
    cases ps with
    | nil => exact ⟨[], .nil⟩
    | cons q l => simp at this
  | v :: its, ps, r => by
    obtain ⟨q, ps', rfl, r', b, t, u, n, rfl, hm⟩ := r.head
    obtain ⟨as, h1⟩ := rows_reads N r'
    exact ⟨_, .cons (.tuple (N _ hm).1 rfl rfl (.cons (.str _ _) (.cons (.str _ _) .nil))) h1⟩
theorem dat_all : ((List.range 11).all fun n => PySem.SeqAt.shaped (.list (rowDat n)) && PySem.SeqAt.noMix (.list (rowDat n)) (.list (rowDat n)) && PySem.Spec.same (.list (rowDat n)) (.list (rowDat n))) = true := by decide +kernel
theorem ne_rows {prog : Program} {w : World} {A : Around} {E : Value → Shared → Prop} {s : Shared} {h₀ : Heap} {L : Addr} {news : List (Addr × Obj)} {a b : Addr} {its : List Value} {n k k' : Nat} {Q : Value → Shared → Prop} (N : News h₀ L s.heap news) (r : RowsAre news its (rowsAt n 0)) (hn : n ≤ 10) (ha : (a, W.listOf its.toArray k) ∈ news) (hb : (b, W.listOf its.toArray k') ∈ news) (hu : A.units + 64 < cLine)
    (h : Q (.bool false) s) : wpAny (model prog w) A (compareOp .NotEq (.ref a) (.ref b)) Q E s := by
  obtain ⟨as, h1⟩ := rows_reads N r
  have h2 := List.all_eq_true.mp dat_all n (List.mem_range.mpr (by omega))
  rw [Bool.and_eq_true, Bool.and_eq_true] at h2
  refine ne_dataH_same (.list (xs := rowDat n) (N _ ha).1 rfl rfl h1) (.list (xs := rowDat n) (N _ hb).1 rfl rfl h1) h2.1.1 h2.1.1 hu h2.1.2 ?_
  rw [h2.2]
  exact h
/-- letters, each told by its place -/
structure LetAre (vs : List Value) (i : Nat) (f : Nat → Str) : Prop where
  len : vs.length = i
  at_ : ∀ (j : Nat) (v : Value), vs[j]? = some v → ∃ t, v = .str (f j) t
theorem LetAre.nil {f : Nat → Str} : LetAre [] 0 f := ⟨rfl, fun j v h => by simp at h⟩
theorem LetAre.snoc {vs : List Value} {i : Nat} {f : Nat → Str} (h : LetAre vs i f) (t : Tok) : LetAre (vs ++ [Value.str (f i) t]) (i + 1) f := by
  refine ⟨by simp [h.len], fun j v hv => ?_⟩
  by_cases hj : j < i
  · rw [List.getElem?_append_left (by rw [h.len]; exact hj)] at hv
    exact h.at_ j v hv
  · have hl : j < i + 1 := by
      have := (List.getElem?_eq_some_iff.mp hv).1
      simp [h.len] at this
      omega
    have e : j = i := by omega
    subst e
    have : v = Value.str (f j) t := by
      rw [List.getElem?_append_right (by rw [h.len]; exact Nat.le_refl _), h.len, Nat.sub_self] at hv
      simpa using hv.symm
    exact ⟨t, this⟩
theorem LetAre.get {vs : List Value} {i : Nat} {f : Nat → Str} (h : LetAre vs i f) {j : Nat} (hj : j < i) : ∃ t, vs[j]? = some (.str (f j) t) := by
  have hl : j < vs.length := by rw [h.len]; exact hj
  obtain ⟨t, e⟩ := h.at_ j vs[j] (List.getElem?_eq_getElem hl)
  exact ⟨t, by rw [List.getElem?_eq_getElem hl, e]⟩
theorem found_end {prog : Program} {h₀ h' : Heap} {L I C D2 : Addr} {m : Str → Option Value} {s₁ : Shared} {oI oC : Obj} {vs : List Value} {news' : List (Addr × Obj)} {i tk : Nat} {t : Tok} {f : Nat → Str} {Sx : List (Addr × Obj) → Prop} {rest : List Value → List (Addr × Obj) → Prop}
    (F6 : Fr h₀ L h' m) (N6 : News h₀ L h' ((I, oI) :: (C, oC) :: (D2, LCg.lst vs) :: news')) (o3 : LCg.Off3 I C D2 news') (hS : Sx news') (hv : LetAre vs i f) (ih : ∀ ys' news'', news'' = news' ∧ LetAre ys' (i + 1) f → rest ys' news'') :
    LCg.CompEnd h₀ L m s₁ I oI C oC D2 (LCg.lst vs) Sx (fun y news'' => rest (vs ++ [y]) news'') (.str (f i) t) { s₁ with heap := h', toks := tk } :=
  LCg.CompEnd.intro F6 N6 news' (fun q hq => hq) o3 hS (ih _ _ ⟨rfl, hv.snoc t⟩)
def strIs (x : Str) : Value → Bool
  | .str y _ => y.cps.toList == x.cps.toList
  | _ => false
theorem index_strs {prog : Program} {w : World} {A : Around} {E : Value → Shared → Prop} {s : Shared} {l : Addr} {vs : List Value} {i j : Nat} {f : Nat → Str} {x : Str} {t : Tok} {Q : Value → Shared → Prop} (hl : s.heap.IsList l vs.toArray) (hv : LetAre vs i f) (hi : i ≤ 1000) (hj : j < i) (hit : f j = x) (hno : ∀ m, m < j → f m ≠ x)
    (h : Q (.int (j : Nat) s.toks) { s with toks := s.toks + 1 }) :
    wpAny (model prog w) A (call (.builtin "list.index") [.ref l, .str x t]) Q E s := by
  obtain ⟨⟨cls, dd, data, sl⟩, ho, hc, n, hd⟩ := id hl
  simp only at hc hd
  subst hc hd
  have hlen := hv.len
  have at1 : ∀ m (hm : m < vs.length), strIs x vs[m] = ((f m).cps.toList == x.cps.toList) := fun m hm => by
    obtain ⟨u, e⟩ := hv.at_ m vs[m] (List.getElem?_eq_getElem hm)
    rw [e]; rfl
  refine call_meets PySem.F.slot_list_index ⟨_, ho, rfl⟩ PySem.F.entry_list_index (PySem.F.args_list_index_2 _ _)
    (PySem.SeqAt.list_indexAt l vs.toArray n dd sl (.str x t) (strIs x) j (by simpa [hlen] using hj) (by omega) ?_ ?_) ⟨ho, fun y hy => ?_, h⟩
  · show strIs x vs[j] = true
    rw [at1 j (by omega), hit]; simp
  · intro m hms hlt
    show strIs x vs[m] = false
    rw [at1 m (by simpa using hms)]
    refine beq_eq_false_iff_ne.mpr fun e => hno m hlt ?_
    apply Str.ext'
    exact Array.toList_inj.mp e
  · obtain ⟨m, hm, e⟩ := List.getElem_of_mem (show y ∈ vs by simpa using hy)
    obtain ⟨u, e2⟩ := hv.at_ m y (by rw [← e]; exact List.getElem?_eq_getElem hm)
    subst e2
    exact (PySem.SeqRoads2.EqGives.str _ _ _ _).at _ _
theorem use_told {N₁ : Int} {n f sz : Nat} {t u : Tok} (B : Below A₀ base outer h₀) (F : Fr h₀ L s.heap m) (X : (Mine.hd.heap_39 w.params).In h₀) (N : News h₀ L s.heap news) (T : Top p loose mean mg mb h₀) (hk : cs.kind = .function)
  (hd : dp + 1 < recursionLimit) (hu : un + 8 < cLine) (hz : 2 + N₁.fmod 5 = (sz : Int)) (hf : (N₁.fdiv 5).fmod 8 = (f : Int)) (hf8 : f < 8) (hz2 : 2 ≤ sz) (hz6 : sz ≤ 6) (hn1 : 1 ≤ n) (hn : n ≤ 10) (hf6 : f ≠ 6)
  (hret : ∀ D its n' h' tk', Fr h₀ L h' m → News h₀ L h' ((D, W.listOf (List.toArray its) n') :: news) → IntsAre its (List.replicate (manyOf f sz n).toNat (sz : Int)) → Q (.ref D) { s with heap := h', toks := tk' }) :
  wpAny (model PySem.Challenge.rw_st0018_01.row.prog w) (ktrTop dp un gd cn cs L a ccd cl outer) (call (.ref 227) [.int N₁ t, .int n u]) Q E s := by
  have hm := (many_step (sz := sz) hf8 hf6 hn1).1
  refine tTold B F X N T hk hd hu hz hf hf8 hz2 hz6 hn1 hn (fun h => absurd hm (by omega)) fun _ D its n' news' h' tk' F' N' hsub hD hi => ?_
  refine hret D its n' h' tk' F' (fun q hq => ?_) hi
  rcases List.mem_cons.mp hq with rfl | hq
  · exact N' _ hD
  · exact N' _ (hsub _ hq)
theorem use_told6 {N₁ : Int} {n f sz : Nat} {t u : Tok} (B : Below A₀ base outer h₀) (F : Fr h₀ L s.heap m) (X : (Mine.hd.heap_39 w.params).In h₀) (N : News h₀ L s.heap news) (T : Top p loose mean mg mb h₀) (hk : cs.kind = .function)
  (hd : dp + 1 < recursionLimit) (hu : un + 8 < cLine) (hz : 2 + N₁.fmod 5 = (sz : Int)) (hf : (N₁.fdiv 5).fmod 8 = (f : Int)) (hf8 : f < 8) (hz2 : 2 ≤ sz) (hz6 : sz ≤ 6) (hn1 : 1 ≤ n) (hn : n ≤ 10) (hf6 : f = 6)
  (hret : ∀ h' tk', Fr h₀ L h' m → News h₀ L h' news → Q .none { s with heap := h', toks := tk' }) :
  wpAny (model PySem.Challenge.rw_st0018_01.row.prog w) (ktrTop dp un gd cn cs L a ccd cl outer) (call (.ref 227) [.int N₁ t, .int n u]) Q E s := by
  have hm : manyOf f sz n = -1 := by rw [hf6]; rfl
  exact tTold B F X N T hk hd hu hz hf hf8 hz2 hz6 hn1 hn (fun _ => hret) fun h => absurd h (by rw [hm]; decide)
theorem sums_names {h₀ h : Heap} {L D : Addr} {x y z : Int} {t0 t1 t2 : Tok} {k : Nat} {rest : List (Addr × Obj)} (N : News h₀ L h ((D, W.listOf #[Value.int x t0, .int y t1, .int z t2] k) :: rest)) : ∃ x' y' z' u0 u1 u2 k', x' = x ∧ y' = y ∧ z' = z ∧ u0 = t0 ∧ u1 = t1 ∧ u2 = t2 ∧ k' = k := ⟨_, _, _, _, _, _, _, rfl, rfl, rfl, rfl, rfl, rfl, rfl⟩
theorem list_ne {its : List Value} {k : Nat} (h : its ≠ []) : W.listOf its.toArray k ≠ W.listOf #[] 0 := by
  intro e
  have := congrArg Obj.data e
  injection this with h1 h2
  have := congrArg Array.toList h1
  exact h (by simpa using this)
theorem rows_ne {news : List (Addr × Obj)} {its : List Value} {n : Nat} (h : RowsAre news its (rowsAt n 0)) (hn : 1 ≤ n) : its ≠ [] := by
  intro e
  have := h.len
  rw [e] at this
  simp [rowsAt] at this
  omega
theorem snd_obj {h₀ h : Heap} {L c : Addr} {oc : Obj} {q : Addr × Obj} {rest : List (Addr × Obj)} (N : News h₀ L h (q :: (c, oc) :: rest)) : ∃ o, o = oc := ⟨oc, rfl⟩
end Mine
end

section
open PySem PySem.W PyProof.Rows PySem.Calls
/-- the walker's notes of the text before are put away -/
theorem Mine.freshLg {prog : Program} {w : World} {A : Around} {env : Env} {Q : Flow → Shared → Prop} {E : Value → Shared → Prop} {s : Shared} (h : Q .next s) : wpAny (model prog w) A (execs [] env) Q E s := by
  w_on
  w_top off
  k_with_none
  walk1
  exact h
end
section
open PySem PySem.W PySem.W.X PyProof.Rows PySem.Calls
set_option maxRecDepth 100000
set_option linter.all false
namespace Mine
section
variable {prog : Program} {w : World} {A : Around} {E : Value → Shared → Prop} {s : Shared} {env : Env} {h₀ : Heap} {target : Expr} {body : List Stmt} {Q : Flow → Shared → Prop}
/-- what a turn hands on, the generators changed -/
def TurnEndG (h₀ : Heap) (L : Addr) (J : (Str → Option Value) → List (Addr × Obj) → Prop) (own : List (Addr × Obj)) (s : Shared) (Q : Flow → Shared → Prop) (f : Flow) (s₃ : Shared) : Prop :=
  match f with
  | .next | .cont => ∃ h' tk G m₂ news₂, s₃ = { s with heap := h', toks := tk, gens := G } ∧ AllBare G ∧ Fr h₀ L h' m₂ ∧ News h₀ L h' (news₂ ++ own) ∧ OwnOff own (news₂.map (·.1)) ∧ J m₂ news₂
  | .brk => Q .next s₃
  | .ret v => Q (.ret v) s₃
theorem turnG_next {h₀ : Heap} {L : Addr} {J : (Str → Option Value) → List (Addr × Obj) → Prop} {own news₂ : List (Addr × Obj)} {s : Shared} {Q : Flow → Shared → Prop} {h' : Heap} {tk : Nat} {G : Array GenState} {m₂ : Str → Option Value}
    (hb : AllBare G) (F : Fr h₀ L h' m₂) (N : News h₀ L h' (news₂ ++ own)) (off : OwnOff own (news₂.map (·.1))) (j : J m₂ news₂) : TurnEndG h₀ L J own s Q .next { s with heap := h', toks := tk, gens := G } := ⟨_, _, _, _, _, rfl, hb, F, N, off, j⟩
/-- what a loop needs, once its iterator is made -/
inductive ForAtG (prog : Program) (w : World) (A : Around) (h₀ : Heap) (env : Env) (target : Expr) (body : List Stmt) (Q : Flow → Shared → Prop) (E : Value → Shared → Prop) (s : Shared) (iv : Value) (s₂ : Shared) : Prop
  | mk (I : Addr) (n : Nat) (P : Nat → Value → Prop) (St : Nat → Heap → Prop) (Ok : Heap → Prop) (J : Nat → (Str → Option Value) → List (Addr × Obj) → Prop) (h₂ : Heap) (tk₂ : Nat) (G₂ : Array GenState) (m₂ : Str → Option Value) (news₂ : List (Addr × Obj)) (x0 : iv = .ref I) (x1 : s₂ = { s with heap := h₂, toks := tk₂, gens := G₂ }) (x2 : AllBare G₂) (x3 : Goes prog w A I n P St Ok) (x4 : I ≠ env.locals) (x5 : h₀.get? I = none) (x6 : St 0 h₂) (x7 : Fr h₀ env.locals h₂ m₂) (x8 : News h₀ env.locals h₂ news₂) (x9 : (∀ p ∈ news₂, p.1 ≠ I)) (x10 : J 0 m₂ news₂) (x11 : (∀ i m₁ news₁ h₁, J i m₁ news₁ → Fr h₀ env.locals h₁ m₁ → News h₀ env.locals h₁ news₁ → Ok h₁)) (x12 : (∀ i v m₁ news₁ own h tk G, i < n → P i v → AllBare G → J i m₁ news₁ → OwnOff own (news₁.map (·.1)) → Fr h₀ env.locals h m₁ → News h₀ env.locals h (news₁ ++ own) → wpAny (model prog w) A (assign target env v) (fun _ s₂ => wpAny (model prog w) A (execs body env) (TurnEndG h₀ env.locals (J (i + 1)) own s Q) E s₂) E { s with heap := h, toks := tk, gens := G })) (x13 : (∀ m₁ news₁ h tk G, AllBare G → J n m₁ news₁ → Fr h₀ env.locals h m₁ → News h₀ env.locals h news₁ → Q .next { s with heap := h, toks := tk, gens := G })) : ForAtG prog w A h₀ env target body Q E s iv s₂
/-- what holds at each turn -/
inductive ForInvG (h₀ : Heap) (L : Addr) (s : Shared) (I : Addr) (n : Nat) (St : Nat → Heap → Prop) (J : Nat → (Str → Option Value) → List (Addr × Obj) → Prop) (k : Nat) (s' : Shared) : Prop
  | mk (h₁ : Heap) (tk₁ : Nat) (G₁ : Array GenState) (m₁ : Str → Option Value) (news₁ : List (Addr × Obj)) (i : Nat) (x0 : s' = { s with heap := h₁, toks := tk₁, gens := G₁ }) (xb : AllBare G₁) (x1 : St i h₁) (x2 : Fr h₀ L h₁ m₁) (x3 : News h₀ L h₁ news₁) (x4 : ∀ p ∈ news₁, p.1 ≠ I) (x5 : J i m₁ news₁) (x6 : i ≤ n) (x7 : k = n + 1 - i) : ForInvG h₀ L s I n St J k s'
theorem For_genG {iter : Expr} {pos : Pos} {m : Str → Option Value} (_F : Fr h₀ env.locals s.heap m) (ht : (∃ e k p, target = .Tuple e k p) ∨ (∃ x p, target = .Name x p))
    (heval : wpAny (model prog w) A (eval iter env) (fun xv s₁ => wpAny (model prog w) A (pyIter xv) (ForAtG prog w A h₀ env target body Q E s) E s₁) E s)
    (hs : ∀ x, foldedSetIterable iter env x = pure x := by intro _; rfl)
    (hE : PassesOwn (model prog w) A env E := by passes_own) :
    wpAny (model prog w) A (exec (.For target iter body [] pos) env) Q E s := by
  refine wpAny_For (wpAny_mono heval (fun xv s₁ h₁ => ?_) fun _ _ e => e) hs
  refine wpAny_mono h₁ (fun iv s₂ h₂ => ?_) fun _ _ e => e
  obtain ⟨I, n, P, St, Ok, J, h₂, tk₂, G₂, m₂, news₂, rfl, rfl, hb₂, W, hIL, hI0, hst, F₂, N₂, hne₂, hJ₂, hkeep, turn, done⟩ := h₂
  refine codeAny_forLoop_any
    (ForInvG h₀ env.locals s I n St J) ?_ (n + 1)
    ⟨h₂, tk₂, G₂, m₂, news₂, 0, rfl, hb₂, hst, F₂, N₂, hne₂, hJ₂, Nat.zero_le _, rfl⟩
  rintro k s' ⟨h₁, tk₁, G₁, m₁, news₁, i, rfl, hb₁, hit, F₁, N₁, hne, hJ₁, hi, rfl⟩
  have hl₁ := hkeep i _ _ _ hJ₁ F₁ N₁
  have frm : ∀ h₃ : Heap, (∀ (b : Nat) (o : Obj), b ≠ I → h₁.get? b = some o → h₃.get? b = some o) → Fr h₀ env.locals h₃ m₁ ∧ ∀ p ∈ news₁, h₃.get? p.1 = some p.2 ∧ p.1 ≠ env.locals ∧ h₀.get? p.1 = none := fun h₃ he =>
    ⟨⟨F₁.ns.extBut (fun b o hb e => he b o hb e) hIL.symm, fun b o e => he b o (fun q => by rw [q, hI0] at e; cases e) (F₁.keep b o e), F₁.above⟩, fun p hp => ⟨he _ _ (hne p hp) (N₁ p hp).1, (N₁ p hp).2⟩⟩
  by_cases hlt : i < n
  · refine W.item i _ _ _ hlt hit hl₁ fun v h₃ tk₃ hP st₃ hk₃ => ?_
    refine W.go target i v _ _ _ ht hP st₃ ?_
    obtain ⟨F₃, N₃⟩ := frm h₃ hk₃
    obtain ⟨oi, hoi⟩ := W.here _ _ st₃
    have N₃' : News h₀ env.locals h₃ (news₁ ++ [(I, oi)]) := by
      intro p hp
      rcases List.mem_append.mp hp with hp | hp
      · exact N₃ p hp
      · rw [List.mem_singleton.mp hp]
        exact ⟨hoi, hIL, hI0⟩
    have off : OwnOff [(I, oi)] (news₁.map (·.1)) := by
      intro p hp b hb
      rw [List.mem_singleton.mp hp]
      obtain ⟨q, hq, rfl⟩ := List.mem_map.mp hb
      exact (hne q hq).symm
    refine wpAny_passesOwn hE (wpAny_mono (turn i v m₁ news₁ _ h₃ tk₃ G₁ hlt hP hb₁ hJ₁ off F₃ N₃') (fun _ s₂ h₃ => ?_) fun _ _ e => e)
    refine wpAny_passesOwn hE (wpAny_mono h₃ (fun f s₃ h₄ => ?_) fun _ _ e => e)
    cases f with
    | ret v => exact h₄
    | brk => exact h₄
    | next =>
      obtain ⟨h₅, tk₅, G₅, m₅, news₅, rfl, hb₅, F₅, N₅, off₅, hJ₅⟩ := h₄
      have e5 := (N₅ (I, oi) (by simp)).1
      refine ⟨n + 1 - (i + 1), by omega, h₅, tk₅, G₅, m₅, news₅, i + 1, rfl, hb₅, W.frame _ _ _ st₃ (fun o e => by rw [hoi] at e; cases e; exact e5), F₅, fun p hp => N₅ p (List.mem_append_left _ hp), fun p hp e => ?_, hJ₅, hlt, rfl⟩
      exact off₅ _ (.head _) p.1 (List.mem_map_of_mem hp) e.symm
    | cont =>
      obtain ⟨h₅, tk₅, G₅, m₅, news₅, rfl, hb₅, F₅, N₅, off₅, hJ₅⟩ := h₄
      have e5 := (N₅ (I, oi) (by simp)).1
      refine ⟨n + 1 - (i + 1), by omega, h₅, tk₅, G₅, m₅, news₅, i + 1, rfl, hb₅, W.frame _ _ _ st₃ (fun o e => by rw [hoi] at e; cases e; exact e5), F₅, fun p hp => N₅ p (List.mem_append_left _ hp), fun p hp e => ?_, hJ₅, hlt, rfl⟩
      exact off₅ _ (.head _) p.1 (List.mem_map_of_mem hp) e.symm
  · have hsz : i = n := by omega
    subst hsz
    refine W.done _ _ _ hit hl₁ fun h₃ tk₃ he => wpAny_execs_nil ?_
    obtain ⟨F₃, N₃⟩ := frm h₃ he
    exact done m₁ news₁ h₃ tk₃ G₁ hb₁ hJ₁ F₃ N₃
theorem ForAtG_list {s s₁ : Shared} {h : Heap} {tk : Nat} {G : Array GenState} {l : Addr} {its : List Value} {m : Str → Option Value} {news : List (Addr × Obj)} (hh : A.handled = none) (es : s₁ = { s with heap := h, toks := tk, gens := G }) (hb : AllBare G) (F : Fr h₀ env.locals h m) (N : News h₀ env.locals h news) (J : Nat → (Str → Option Value) → List (Addr × Obj) → Prop)
    (hJ : J 0 m news) (hkeep : ∀ i m₁ news₁ h₁, J i m₁ news₁ → Fr h₀ env.locals h₁ m₁ → News h₀ env.locals h₁ news₁ → h₁.IsList l its.toArray)
    (turn : ∀ i v m₁ news₁ own h tk G, its[i]? = some v → AllBare G → J i m₁ news₁ → OwnOff own (news₁.map (·.1)) → Fr h₀ env.locals h m₁ → News h₀ env.locals h (news₁ ++ own) →
      wpAny (model prog w) A (assign target env v) (fun _ s₂ => wpAny (model prog w) A (execs body env) (TurnEndG h₀ env.locals (J (i + 1)) own s Q) E s₂) E { s with heap := h, toks := tk, gens := G })
    (done : ∀ m₁ news₁ h tk G, AllBare G → J its.length m₁ news₁ → Fr h₀ env.locals h m₁ → News h₀ env.locals h news₁ → Q .next { s with heap := h, toks := tk, gens := G }) :
    wpAny (model prog w) A (pyIter (.ref l)) (ForAtG prog w A h₀ env target body Q E s) E s₁ := by
  subst es
  have hl : h.IsList l its.toArray := hkeep 0 _ _ _ hJ F N
  refine wpAny_pyIter_list hl ?_
  have hI : ∀ b o, h.get? b = some o → b ≠ h.objs.size := fun b o e => Nat.ne_of_lt (Heap.lt_size e)
  obtain ⟨oL, _, _, hoL, _⟩ := id F.ns
  have hIL : h.objs.size ≠ env.locals := fun e => hI _ _ hoL e.symm
  have hI0 : h₀.get? h.objs.size = none := by
    cases q : h₀.get? h.objs.size with
    | none => rfl
    | some o => exact absurd (F.keep _ _ q) (fun e => hI _ _ e rfl)
  exact ⟨h.objs.size, its.length, _, _, _, J, _, tk, G, m, news, rfl, rfl, hb, Goes.list hh, hIL, hI0, ⟨_, Heap.get?_push_size _ rfl, rfl, rfl⟩, F.push _, fun p hp => ⟨Heap.get?_push_of_some _ (N p hp).1, (N p hp).2⟩, fun p hp => hI _ _ (N p hp).1, hJ, hkeep, fun i v m₁ news₁ own h tk G _ => turn i v m₁ news₁ own h tk G, done⟩
end
end Mine
end

section
open PySem PySem.W PyProof.Rows PySem.Calls
/-- the walker's notes of the text before are put away -/
theorem Mine.freshTi {prog : Program} {w : World} {A : Around} {env : Env} {Q : Flow → Shared → Prop} {E : Value → Shared → Prop} {s : Shared} (h : Q .next s) : wpAny (model prog w) A (execs [] env) Q E s := by
  w_on
  w_top off
  k_with_none
  walk1
  exact h
end
section
open PySem PySem.W PySem.W.X PyProof.Rows PySem.Calls
set_option maxRecDepth 100000
set_option maxHeartbeats 8000000
set_option linter.all false
namespace Mine
variable {w : World} {p : Program} {loose : List Str} {mean : ExcName → Option Value} {mg mb : Str → Option Value}
  {dp un : Nat} {gd : Option (List Code)} {cn : Str} {cs : Scope} {a : Addr} {ccd : Value} {cl : List (Str × Addr)} {outer : List Env} {A₀ : Around} {base h₀ : Heap} {L : Addr} {m : Str → Option Value} {news : List (Addr × Obj)} {s : Shared} {Q E : Value → Shared → Prop}
theorem toldTi_1 : True := by
  k_with "cell_enter" => (refine' code_def ?k1 ?k2 ?k3 ?k4 ?k5 ?kA ?kF ?kK ?k6 ?k7 ?k8 ?k9 ?kB ?_ ?c2 ?c3 ?c4 ?c5; (case kA => exact rfl); (case kF => exact rfl); (case kK => assumption); (case k1 => k_asm); (case k2 => k_asm); (case k3 => k_asm); (case k4 => k_asm); (case k5 => k_asm); (case k6 => k_is); (case k7 => k_is); (case k8 => ktr_room); (case k9 => first | exact BindsTo.of_eq rfl | exact binds_K (by k_in) rfl (by k_is) rfl rfl rfl); (case c5 => decide); (case kB => exact locs rfl); (case c2 => exact rfl); (case c3 => exact rfl); (case c4 => exact rfl); k_whole; intro g' L' h' FG' F' N' B' X' T'; (try dsimp only); (try k_lift B'); (try k_fold))
  trivial
theorem toldTi_2 : True := by
  k_with "k_mem" => (refine List.mem_cons_of_mem _ ?_; k_mem)
  trivial
theorem toldTi_3 : True := by
  k_with "ktr_units" => (have hcL9 := cLine_is; ((try simp only [units_under_make, units_in1, units_deeper, Around.mark_units, units_caller] at *); (try dsimp only [ktrTop] at *); omega))
  trivial

theorem toldTi_4 : True := by
  k_with "subscriptTail Attribute Slice ref ref" => (refine halt ?_)
  trivial
theorem tItems {o l : Addr} {n : Nat} {its : List Value} (B : Below A₀ base outer h₀) (F : Fr h₀ L s.heap m) (X : (Mine.hd.heap_39 w.params).In h₀) (N : News h₀ L s.heap news) (T : Top p loose mean mg mb h₀) (hk : cs.kind = .function)
  (hd : dp + 1 < recursionLimit) (hu : un + 8 < cLine) (ho : HdrAt news o l) (hl : (l, W.listOf its.toArray n) ∈ news) (hlen : its.length ≤ 1000)
  (hret : ∀ D h' tk', Fr h₀ L h' m → News h₀ L h' ((D, W.listOf its.toArray 0) :: news) → Q (.ref D) { s with heap := h', toks := tk' }) :
  wpAny (model PySem.Challenge.rw_st0018_01.row.prog w) (ktrTop dp un gd cn cs L a ccd cl outer) (call (.ref 166) [.ref o]) Q E s := by
  obtain ⟨d, hh, th, nd, h1, h2⟩ := ho.ex
  revert X
  k_fill
  intro X
  refine wpAny_call ?_
  k_dflt cell_enter
  k_steps
  with_reducible (rename Fr _ _ _ _ => F9)
  with_reducible (rename News _ _ _ _ => N9)
  refine slice_list F9 N9 ⟨_, (N9 _ hl).1, rfl, _, rfl⟩ .none .none ?_ (hsz := by rw [sizeLine_eq]; simp; omega)
  intro h7 F7 N7
  rw [slicePick_all] at N7
  k_steps
  exact hret _ _ _ (by k_asm) (by k_asm)
end Mine
end

section
open PySem PySem.W PyProof.Rows PySem.Calls
/-- the walker's notes of the text before are put away -/
theorem Mine.freshAk {prog : Program} {w : World} {A : Around} {env : Env} {Q : Flow → Shared → Prop} {E : Value → Shared → Prop} {s : Shared} (h : Q .next s) : wpAny (model prog w) A (execs [] env) Q E s := by
  w_on
  w_top off
  k_with_none
  walk1
  exact h
end
section
open PySem PySem.W PyProof.Rows PySem.Calls
set_option maxRecDepth 100000
set_option linter.all false
namespace Mine
theorem law_asks {nn : Nat} (hn1 : 1 ≤ nn) (hn : nn ≤ 10) (y z : Int) : asks nn (stepN nn y) (stepN nn z) (Gs nn y z 2) = true := by
  obtain ⟨n, rfl⟩ : ∃ n, nn = n + 1 := ⟨nn - 1, by omega⟩
  have key := asks_all
  have hy := num_parts y
  have hz := num_parts z
  have mem : ∀ s : Nat, 2 ≤ s → s ≤ 6 → s ∈ [2, 3, 4, 5, 6] := by
    intro s h1 h2
    have : s = 2 ∨ s = 3 ∨ s = 4 ∨ s = 5 ∨ s = 6 := by omega
    rcases this with rfl | rfl | rfl | rfl | rfl <;> simp
  have k1 := List.all_eq_true.mp key n (List.mem_range.mpr (by omega))
  have k2 := List.all_eq_true.mp k1 (szN y) (mem _ hy.2.1 hy.2.2.1)
  have k3 := List.all_eq_true.mp k2 (capN (n + 1) y) (cap_in hy.2.2.2.2.1)
  have k4 := List.all_eq_true.mp k3 (szN z) (mem _ hz.2.1 hz.2.2.1)
  exact List.all_eq_true.mp k4 (capN (n + 1) z) (cap_in hz.2.2.2.2.1)
theorem find_range {n r : Nat} {p : Nat → Bool} (h : (List.range n).find? p = some r) : r < n ∧ p r = true ∧ ∀ m, m < r → p m = false := by
  obtain ⟨h1, i, hi, e, h2⟩ := List.find?_eq_some_iff_getElem.mp h
  simp only [List.length_range] at hi
  simp only [List.getElem_range] at e h2
  subst e
  exact ⟨hi, h1, fun m hm => by have := h2 m hm; simpa using this⟩
theorem asks_at {n p q : Nat} {G : List (Nat × Nat)} (h : asks n p q G = true) {k : Nat} (hk : k < n) :
    root G 10 k < n ∧ root G 10 (root G 10 k) = root G 10 k ∧ (∀ m, m < root G 10 k → root G 10 m ≠ root G 10 k) ∧ (p ≤ k → root G 10 k = root G 10 (k - p)) ∧ (q ≤ k → root G 10 k = root G 10 (k - q)) := by
  unfold asks at h
  rw [Bool.and_eq_true] at h
  have h1 := List.all_eq_true.mp h.1 k (List.mem_range.mpr hk)
  rw [Bool.and_eq_true, Bool.and_eq_true] at h1
  obtain ⟨⟨h2, h3⟩, h4⟩ := h1
  obtain ⟨f1, f2, f3⟩ := find_range (eq_of_beq h2)
  refine ⟨f1, eq_of_beq f2, fun m hm => ?_, fun hp => ?_, fun hq => ?_⟩
  · have := f3 m hm
    simpa using this
  · rw [decide_eq_true hp] at h3
    simpa using h3
  · rw [decide_eq_true hq] at h4
    simpa using h4
theorem asks_len {n p q : Nat} {G : List (Nat × Nat)} (h : asks n p q G = true) : ((((List.range n).map (root G 10)).eraseDups.length : Nat) : Int) = leftI n p q := by
  unfold asks at h
  rw [Bool.and_eq_true] at h
  exact eq_of_beq h.2
theorem lt63 {k : Nat} (h : k ≤ 1000) : (k : Int) < 2 ^ 63 := by omega
theorem chr_idx {r : Nat} : ({ cps := #[((97 : Int) + (r : Int)).toNat] } : Str) = ltr r := by
  have : ((97 : Int) + (r : Int)).toNat = 97 + r := by omega
  rw [this]; rfl
theorem ne_chr {r : Nat} (h : (ltr r != ({ cps := #[((97 : Int) + (r : Int)).toNat] } : Str)) = true) : False := by
  rw [chr_idx] at h
  simp at h
theorem ne_same {x : Str} (h : (x != x) = true) : False := by simp at h
theorem two_at {p q : Nat} {u0 u1 : Tok} {i : Nat} {v : Value} {P : Nat → Prop} (hv : [Value.int (p : Int) u0, Value.int (q : Int) u1][i]? = some v) (hp : P p) (hq : P q) : ∃ (st : Nat) (ts : Tok), v = .int (st : Int) ts ∧ P st := by
  match i with
  | 0 => exact ⟨p, u0, by simpa using hv.symm, hp⟩
  | 1 => exact ⟨q, u1, by simpa using hv.symm, hq⟩
  | k + 2 => simp at hv
theorem sub_nat {k st : Nat} (h : st ≤ k) : ((k : Int) - (st : Int)).toNat = k - st := by omega
theorem sub_nn {k st : Nat} (h : st ≤ k) : 0 ≤ (k : Int) - (st : Int) := by omega
theorem sub63 {k st : Nat} (h : (k : Int) < 2 ^ 63) : (k : Int) - (st : Int) < 2 ^ 63 := by omega
end Mine
end

section
open PySem PySem.W PyProof.Rows PySem.Calls
/-- the walker's notes of the text before are put away -/
theorem Mine.freshSs {prog : Program} {w : World} {A : Around} {env : Env} {Q : Flow → Shared → Prop} {E : Value → Shared → Prop} {s : Shared} (h : Q .next s) : wpAny (model prog w) A (execs [] env) Q E s := by
  w_on
  w_top off
  k_with_none
  walk1
  exact h
end
section
open PySem PySem.W PyProof.Rows PySem.Calls PySem.Spec
set_option maxRecDepth 100000
set_option linter.all false
namespace Mine
/-- the texts first met -/
def fm (val : Nat → Str) (i : Nat) : List Str := ((List.range i).map val).foldl step_dedup []
theorem fm_succ (val : Nat → Str) (i : Nat) : fm val (i + 1) = step_dedup (fm val i) (val i) := by
  unfold fm
  rw [List.range_succ, List.map_append, List.foldl_append]
  rfl
theorem st_len (σ : List Str) (v : Str) : (step_dedup σ v).length = if σ.any (· == v) then σ.length else σ.length + 1 := by
  unfold step_dedup
  split <;> simp
theorem fm_le (val : Nat → Str) : ∀ i, (fm val i).length ≤ i
  | 0 => Nat.le_refl _
  | i + 1 => by
    have ih := fm_le val i
    rw [fm_succ, st_len]
    split <;> omega
theorem st_any (σ : List Str) (v k : Str) : (step_dedup σ v).any (· == k) = (σ.any (· == k) || decide (k = v)) := by
  unfold step_dedup
  by_cases h : σ.any (· == v) = true
  · rw [if_pos h]
    by_cases e : k = v
    · rw [e, h]; simp
    · rw [decide_eq_false e, Bool.or_false]
  · rw [if_neg h, List.any_append]
    by_cases e : k = v
    · rw [e]; simp
    · have hb : (v == k) = false := beq_eq_false_iff_ne.mpr fun h' => e h'.symm
      simp [hb, e]
theorem fold_map (f : Nat → Str) (hf : ∀ a b, f a = f b → a = b) : ∀ (l : List Nat) (σ : List Nat), (l.map f).foldl step_dedup (σ.map f) = (l.foldl step_dedup σ).map f
  | [], σ => rfl
  | a :: l, σ => by
    rw [List.map_cons, List.foldl_cons, List.foldl_cons, ← fold_map f hf l]
    congr 1
    unfold step_dedup
    have e : (σ.map f).any (· == f a) = σ.any (· == a) := by
      rw [List.any_map]
      congr 1
      funext x
      by_cases h : x = a
      · subst h; simp
      · have : f x ≠ f a := fun h' => h (hf _ _ h')
        show (f x == f a) = (x == a)
        rw [beq_eq_false_iff_ne.mpr this, beq_eq_false_iff_ne.mpr h]
    rw [e]
    split
    · rfl
    · simp
theorem loop_fold : ∀ (l bs : List Nat), List.eraseDupsBy.loop (· == ·) l bs = l.foldl step_dedup bs.reverse
  | [], bs => by simp [List.eraseDupsBy.loop]
  | a :: l, bs => by
    rw [List.foldl_cons, List.eraseDupsBy.loop]
    have e : bs.any (fun x => a == x) = bs.reverse.any (· == a) := by
      rw [List.any_reverse]
      congr 1
      funext x
      exact Bool.beq_comm
    cases hb : bs.any (fun x => a == x) with
    | true =>
      rw [e] at hb
      simp only [hb]
      rw [loop_fold l bs]
      unfold step_dedup
      rw [if_pos hb]
    | false =>
      rw [e] at hb
      simp only []
      rw [loop_fold l (a :: bs), List.reverse_cons]
      unfold step_dedup
      rw [if_neg (by rw [hb]; exact Bool.false_ne_true)]
theorem fm_count (g : Nat → Nat) (n : Nat) : (fm (fun k => ltr (g k)) n).length = ((List.range n).map g).eraseDups.length := by
  have e1 : fm (fun k => ltr (g k)) n = (((List.range n).map g).foldl step_dedup []).map ltr := by
    unfold fm
    rw [show (List.range n).map (fun k => ltr (g k)) = ((List.range n).map g).map ltr by rw [List.map_map]; rfl]
    exact fold_map ltr (fun a b => ltr_inj) _ []
  rw [e1, List.length_map]
  show _ = (List.eraseDupsBy.loop (· == ·) ((List.range n).map g) []).length
  rw [loop_fold]
  rfl
section
variable {prog : Program} {w : World} {A : Around} {E : Value → Shared → Prop} {s : Shared} {h₀ : Heap} {L : Addr} {m : Str → Option Value} {news : List (Addr × Obj)}
/-- the loop that fills a set, over texts -/
theorem set_loop {R : Result → Shared → Prop} {I S : Addr} {fp wr : List Addr} {G : Array GenState → Array GenState → Prop} {n : Nat} {P : Nat → Value → Prop} {St : Nat → Shared → Prop} (W : WalksS prog w A.in1 I fp wr G n P St) (hSf : S ∉ fp)
    (val : Nat → Str) (hval : ∀ i v, P i v → ∃ t, v = .str (val i) t) (hb : n + 1 < scanBound) (k : Nat) :
    ∀ (i : Nat) (s : Shared), n - i = k → i ≤ n → St i s → s.heap.SetOf (strKind prog w) S (fun k' => (fm val i).any (· == k')) (fm val i).length →
      (∀ s', Moved (S :: wr) G s s' → s'.heap.SetOf (strKind prog w) S (fun k' => (fm val n).any (· == k')) (fm val n).length → R (.ok (.ret .none)) s') →
      codeAny (model prog w) A (.builtin "set.update.loop" ⟨[.ref S, .ref I], []⟩) R s := by
  have hSw : S ∉ wr := fun h => hSf (W.sub _ h)
  have moved : ∀ (s s' : Shared) (σ : Str → Bool) (c : Nat), Moved wr G s s' → s.heap.SetOf (strKind prog w) S σ c → s'.heap.SetOf (strKind prog w) S σ c := by
    rintro s s' σ c hm ⟨o, es, ep, t, ho, rest⟩
    exact ⟨o, es, ep, t, hm.heap S _ hSw ho, rest⟩
  induction k with
  | zero =>
    intro i s hk hi hst hS hR
    obtain rfl : i = n := by omega
    refine codeAny_builtin F.entry_set_update_loop ?_
    rw [Around.under_plainId F.plain_set_update_loop _]
    show wpAny _ A.in1 (pyNext (.ref I) >>= _) _ _ s
    refine wpAny_bind (W.done s _ _ hst fun s' hm => ?_)
    show wpAny _ A.in1 (ret Value.none) _ _ s'
    exact wpAny_pure (hR s' (hm.mono fun b hb => List.mem_cons_of_mem _ hb) (moved _ _ _ _ hm hS))
  | succ k ih =>
    intro i s hk hi hst hS hR
    have hlt : i < n := by omega
    refine codeAny_builtin F.entry_set_update_loop ?_
    rw [Around.under_plainId F.plain_set_update_loop _]
    show wpAny _ A.in1 (pyNext (.ref I) >>= _) _ _ s
    refine wpAny_bind (W.item i s _ _ hlt hst fun v s' hP hst' hm => ?_)
    obtain ⟨t, rfl⟩ := hval i v hP
    have hS' := moved _ _ _ _ hm hS
    show wpAny _ A.in1 (holding [Value.str (val i) t] (setAdd S (.str (val i) t)) >>= _) _ _ s'
    refine wpAny_bind (wpAny_holding ?_)
    unfold setAdd
    refine wpAny_holding ?_
    refine wpAny_bind ((strKind prog w).pyHash (k := val i) (strKind_is _ _ _ _) ?_)
    have hroom : (fm val i).length + 1 < scanBound := by have := fm_le val i; omega
    refine wpAny_setAddHashed_of (knd := strKind prog w) (strKind_is _ _ _ _) rfl hS' hroom fun h' hsb hS2 => ?_
    have hSi : h'.SetOf (strKind prog w) S (fun k' => (fm val (i + 1)).any (· == k')) (fm val (i + 1)).length :=
      SetOf_congr hS2 (fun k' => by rw [fm_succ, st_any]) (by rw [fm_succ, st_len])
    refine wpAny_pure ⟨plainId_quiet F.plain_set_update_loop _, ih (i + 1) _ (by omega) hlt (W.frame _ s' _ _ hst' (Nat.le_succ _) fun b hb o e => ?_) hSi fun s'' hm'' hS'' => ?_⟩
    · rw [hsb.2 b (fun h : b = S => hSf (by rw [← h]; exact hb))]; exact e
    · refine hR s'' (Moved.trans W.gtrans ((hm.mono fun b hb => List.mem_cons_of_mem _ hb).then_heap (Nat.le_succ _) fun b o hb e => ?_) hm'') hS''
      rw [hsb.2 b (fun h : b = S => hb (by rw [h]; exact List.mem_cons_self))]; exact e
end
section
open PySem PySem.Builtin
variable {prog : Program} {w : World} {A : Around} {E : Value → Shared → Prop} {s : Shared}
set_option maxHeartbeats 3200000 in
/-- set(xs) of a list of texts -/
theorem set_strs {l : Addr} {items : Array Value} {val : Nat → Str} {Q : Value → Shared → Prop} (hh : A.handled = none) (hl : s.heap.IsList l items) (hv : ∀ (i : Nat) (v : Value), items[i]? = some v → ∃ t, v = .str (val i) t) (hb : items.size + 1 < scanBound)
    (h : ∀ (h' : Heap) (tk : Nat), h'.SetOf (strKind prog w) s.heap.objs.size (fun k' => (fm val items.size).any (· == k')) (fm val items.size).length →
      (∀ (b : Nat) (o : Obj), b < s.heap.objs.size → s.heap.get? b = some o → h'.get? b = some o) → Q (.ref s.heap.objs.size) { s with heap := h', toks := tk }) :
    wpAny (model prog w) A (call (.type "set") [.ref l]) Q E s := by
  obtain ⟨c, tl, hmro⟩ := PySem.F.called_set.mro
  have hmade := PySem.F.called_set.made
  have hsub := PySem.F.called_set.sub
  refine wpAny_call (codeAny_of_tree ?_)
  show wpAny _ _ (callAny (.type "set") _) _ _ _
  refine wpAny_pure ⟨Code.quiet_builtin _ (by decide +kernel), codeAny_builtin PySem.F.entry_type_call ?_⟩
  rw [Around.under_plain (weight_type_call_type "set" [.ref l] []) rfl]
  have h1 := PySem.F.called_set.notType
  have h2 := PySem.F.called_set.canCreate
  have hct := PySem.F.typeCall_set_1 (.ref l)
  repeat (any_goals (first | assumption | wp_step))
  let oS : Bool → Obj := fun led => { cls := .type "set", dict := none, data := .set #[] 0 (.fresh 0 0 led) }
  refine codeAny_mono (code_set_new_1 (.ref l) (E := E) (Q₁ := fun obj s₁ => ∃ led : Bool, obj = .ref s.heap.objs.size ∧ s₁ = { s with heap := s.heap.push { cls := .type "set", dict := none, data := .set #[] 0 (.fresh 0 0 led) } }) fun led => ⟨led, rfl, rfl⟩) fun r s₁ hr => ?_
  rcases r with e | (obj | _ | _ | _) <;> first | exact hr | exact hr.elim | skip
  obtain ⟨led, rfl, rfl⟩ := hr
  have hS : (s.heap.push { cls := .type "set", dict := none, data := .set #[] 0 (.fresh 0 0 led) }).get? s.heap.objs.size = some { cls := .type "set", dict := none, data := .set #[] 0 (.fresh 0 0 led) } := Heap.get?_push_size _ rfl
  have hT : Shared.TypeIs { s with heap := s.heap.push { cls := .type "set", dict := none, data := .set #[] 0 (.fresh 0 0 led) } } (.ref s.heap.objs.size) "set" := ⟨_, hS, rfl⟩
  have hli := PySem.F.called_set.init.lookup
  have hbi := PySem.F.called_set.init.bind (.ref s.heap.objs.size)
  repeat (any_goals (first | assumption | wp_step))
  refine codeAny_mono (codeAny_call_builtin (R := wants (fun r s₂ => r = .none ∧ ∃ h' tk, s₂ = { s with heap := h', toks := tk } ∧ h'.SetOf (strKind prog w) s.heap.objs.size (fun k' => (fm val items.size).any (· == k')) (fm val items.size).length ∧
      (∀ (b : Nat) (o : Obj), b < s.heap.objs.size → s.heap.get? b = some o → h'.get? b = some o)) E) PySem.F.called_set.init.plain PySem.F.entry_set_init (check_set_init_1 hT ?_)) fun r₂ s₂ hr₂ => ?_
  · obtain ⟨⟨ocls, odict, odata, oslots⟩, hol, hcl, nl, hdl⟩ := hl
    simp only at hcl hdl
    subst hcl hdl
    have hol' : (s.heap.push { cls := .type "set", dict := none, data := .set #[] 0 (.fresh 0 0 led) }).get? l = some { cls := .type "list", dict := odict, data := .seq items nl, slots := oslots } := Heap.get?_push_of_some _ hol
    have hsls := PySem.F.sub_list_set
    have hslf := PySem.F.sub_list_frozenset
    have hne : (Value.type "list" == Value.type "dict") = false := by decide
    have hl1 : (s.heap.push { cls := .type "set", dict := none, data := .set #[] 0 (.fresh 0 0 led) }).IsList l items := ⟨_, hol', rfl, nl, rfl⟩
    unfold Builtin.«set.__init__» noKeywords Builtin.Frozenset.updateFrom
    generalize hPI : pyIter = PI
    wp_walk
    subst hPI
    refine wpAny_pyIter_list hl1 ?_
    refine wpAny_bind (wpAny_runValue ?_)
    have hlS : l < s.heap.objs.size := Heap.lt_size hol
    have hsz1 : (s.heap.push { cls := .type "set", dict := none, data := .set #[] 0 (.fresh 0 0 led) }).objs.size = s.heap.objs.size + 1 := Heap.size_push ..
    have hneI : l ≠ (s.heap.push { cls := .type "set", dict := none, data := .set #[] 0 (.fresh 0 0 led) }).objs.size := by
      rw [hsz1]; exact Nat.ne_of_lt (Nat.lt_succ_of_lt hlS)
    refine set_loop ((Walks.list (by simp [hh]) _ l hneI items).toS) (S := s.heap.objs.size) ?_ val hv hb (items.size - 0) 0 _ (by omega) (Nat.zero_le _) ⟨⟨_, Heap.get?_push_size _ rfl, rfl, rfl⟩, (hl1.push _)⟩ ?_ ?_
    · rw [hsz1]
      simp only [List.mem_cons, List.not_mem_nil, or_false, not_or]
      exact ⟨Nat.ne_of_lt (Nat.lt_succ_self _), Nat.ne_of_gt hlS⟩
    · exact SetOf_congr ((setObjOf_fresh (knd := strKind prog w) led).setOf (Heap.get?_push_of_some _ hS) (by unfold scanBound; omega)) (fun _ => rfl) rfl
    · intro s' hm hS'
      obtain ⟨h', g', d', tk', os'⟩ := s'
      have eg : g' = s.gens := hm.gens
      have ed : d' = s.drawn := hm.drawn
      have eo : os' = s.os := hm.os
      subst eg ed eo
      show wpAny _ _ _ _ _ _
      refine wpAny_pure ?_
      show wpAny _ _ (ret Value.none) _ _ _
      refine wpAny_pure ⟨rfl, h', tk', rfl, hS', fun b o hb e => ?_⟩
      refine hm.heap b o ?_ (Heap.get?_push_of_some _ (Heap.get?_push_of_some _ e))
      simp only [List.mem_cons, List.not_mem_nil, or_false, not_or]
      exact ⟨Nat.ne_of_lt hb, by rw [hsz1]; exact Nat.ne_of_lt (Nat.lt_succ_of_lt hb)⟩
  · rcases r₂ with e | (r | _ | _ | _) <;> first | exact hr₂ | exact hr₂.elim | skip
    obtain ⟨rfl, h', tk, rfl, hS', hk'⟩ := hr₂
    repeat (any_goals (first | assumption | wp_step))
    exact h _ _ hS' hk'
end
end Mine
end

section
open PySem PySem.W PyProof.Rows PySem.Calls
/-- the walker's notes of the text before are put away -/
theorem Mine.freshSu {prog : Program} {w : World} {A : Around} {env : Env} {Q : Flow → Shared → Prop} {E : Value → Shared → Prop} {s : Shared} (h : Q .next s) : wpAny (model prog w) A (execs [] env) Q E s := by
  w_on
  w_top off
  k_with_none
  walk1
  exact h
end
section
open PySem PySem.W PyProof.Rows PySem.Calls PySem.Spec
set_option maxRecDepth 100000
set_option linter.all false
namespace Mine
section
variable {prog : Program} {w : World} {A : Around} {E : Value → Shared → Prop} {s : Shared} {h₀ : Heap} {L : Addr} {m : Str → Option Value} {rest : List (Addr × Obj)}
theorem use_setS {D5 : Addr} {vs : List Value} {n : Nat} {f : Nat → Str} {Q : Value → Shared → Prop} (F : Fr h₀ L s.heap m) (N : News h₀ L s.heap ((D5, LCg.lst vs) :: rest)) (hv : LetAre vs n f) (hn : n ≤ 10) (hh : A.handled = none)
    (h : ∀ D o h' tk, Fr h₀ L h' m → News h₀ L h' ((D, o) :: (D5, LCg.lst vs) :: rest) → o.SetObjOf (strKind prog w) (fun k' => (fm f n).any (· == k')) (fm f n).length → Q (.ref D) { s with heap := h', toks := tk }) :
    wpAny (model prog w) A (call (.type "set") [.ref D5]) Q E s := by
  have hl : s.heap.IsList D5 vs.toArray := ⟨_, (N _ (.head _)).1, rfl, _, rfl⟩
  have hsz : vs.toArray.size = n := by rw [List.size_toArray]; exact hv.len
  refine set_strs (val := f) hh hl (fun i v hi => hv.at_ i v (by simpa using hi)) (by rw [hsz]; unfold scanBound; omega) fun h' tk hS hk => ?_
  rw [hsz] at hS
  obtain ⟨o, ho, hso⟩ := hS.objOf
  obtain ⟨oL, _, _, hL, _⟩ := id F.ns
  have hLlt : @LT.lt Nat _ L s.heap.objs.size := Heap.lt_size hL
  refine h s.heap.objs.size o h' tk ⟨F.ns.at' fun o' e => hk L o' hLlt e, fun b o' e => hk b o' (Heap.lt_size (F.keep b o' e)) (F.keep b o' e), F.above⟩ (fun p hp => ?_) hso
  rcases List.mem_cons.mp hp with rfl | hp
  · refine ⟨ho, Nat.ne_of_gt hLlt, ?_⟩
    cases hq : h₀.get? s.heap.objs.size with
    | none => rfl
    | some o' => exact absurd (Heap.lt_size (F.keep _ _ hq)) (Nat.lt_irrefl _)
  · exact ⟨hk _ _ (Heap.lt_size (N p hp).1) (N p hp).1, (N p hp).2⟩
theorem stepN_bd {nn : Nat} {num : Int} (h1 : 1 ≤ nn) (hn : nn ≤ 10) : 1 ≤ stepN nn num ∧ stepN nn num ≤ 10 := by
  have hp := num_parts num
  unfold stepN stepOf
  split <;> omega
theorem left_true {nn : Nat} {y z : Int} (hn1 : 1 ≤ nn) (hn : nn ≤ 10) : (((fm (fun k => ltr (root (Gs nn y z 2) 10 k)) nn).length : Nat) : Int) = leftI nn (stepN nn y) (stepN nn z) := by
  rw [fm_count]
  exact asks_len (law_asks hn1 hn y z)
end
end Mine
end

section
open PySem PySem.W PyProof.Rows PySem.Calls
/-- the walker's notes of the text before are put away -/
theorem Mine.freshT15 {prog : Program} {w : World} {A : Around} {env : Env} {Q : Flow → Shared → Prop} {E : Value → Shared → Prop} {s : Shared} (h : Q .next s) : wpAny (model prog w) A (execs [] env) Q E s := by
  w_on
  w_top off
  k_with_none
  walk1
  exact h
end
section
open PySem PySem.W PySem.W.X PyProof.Rows PySem.Calls
set_option maxRecDepth 100000
set_option maxHeartbeats 0
set_option linter.all false
namespace Mine
variable {w : World} {p : Program} {loose : List Str} {mean : ExcName → Option Value} {mg mb : Str → Option Value}
  {dp un : Nat} {gd : Option (List Code)} {cn : Str} {cs : Scope} {a : Addr} {ccd : Value} {cl : List (Str × Addr)} {outer : List Env} {A₀ : Around} {base h₀ : Heap} {L : Addr} {m : Str → Option Value} {news : List (Addr × Obj)} {s : Shared} {Q E : Value → Shared → Prop}
theorem toldT15_1 : True := by
  k_with "k_mem" => (refine List.mem_cons_of_mem _ ?_; k_mem)
  trivial
theorem toldT15_2 : True := by
  k_with "ktr_units" => (have hcL9 := cLine_is; ((try simp only [units_under_make, units_in1, units_deeper, Around.mark_units, units_caller] at *); (try dsimp only [ktrTop] at *); omega))
  trivial
theorem toldT15_3 : True := by
  k_with "call ref" => (k_here; (with_reducible show wpAny _ _ (call (Value.ref 213) _ _) _ _ _); k_dflt (refine' use_sums ?k1 ?k2 ?k3 ?k4 ?k5 ?kK ?kd ?ku ?hl ?hi ?hn ?_; (case k1 => k_asm); (case k2 => k_asm); (case k3 => k_asm); (case k4 => k_asm); (case k5 => k_asm); (case kK => first | exact rfl | assumption); (case kd => ktr_room); (case ku => ktr_units); (case hl => assumption); (case hi => assumption); (case hn => (first | assumption | omega)); k_whole); intro _ _ _ _ _ _ _ _ _ _ _ _ _ _ _)
  trivial
theorem toldT15_4 : True := by
  k_with "call ref" => (k_here; (with_reducible show wpAny _ _ (call (Value.ref 202) _ _) _ _ _); k_dflt (refine' use_newL ?k1 ?k2 ?k3 ?k4 ?k5 ?kK ?kd ?ku ?hl ?hr ?hp ?hc ?_; (case k1 => k_asm); (case k2 => k_asm); (case k3 => k_asm); (case k4 => k_asm); (case k5 => k_asm); (case kK => first | exact rfl | assumption); (case kd => ktr_room); (case ku => ktr_units); (case hl => (k_dflt k_mem)); (case hr => assumption); (case hp => assumption); (case hc => assumption); k_whole); intro _ _ _ _ _ _ _ _ _)
  trivial
theorem toldT15_5 : True := by
  k_with "call ref" => (k_here; (with_reducible show wpAny _ _ (call (Value.ref 202) _ _) _ _ _); k_dflt (refine' use_new0 ?k1 ?k2 ?k3 ?k4 ?k5 ?kK ?kd ?ku ?hc ?hoc ?_; (case k1 => k_asm); (case k2 => k_asm); (case k3 => k_asm); (case k4 => k_asm); (case k5 => k_asm); (case kK => first | exact rfl | assumption); (case kd => ktr_room); (case ku => ktr_units); (case hc => assumption); (case hoc => assumption); k_whole); intro _ _ _ _ _ _ _ _ _ _ _ _)
  trivial
theorem toldT15_6 : True := by
  k_with "call ref" => (k_here; (with_reducible show wpAny _ _ (call (Value.ref 166) _ _) _ _ _); k_dflt (refine' tItems ?k1 ?k2 ?k3 ?k4 ?k5 ?kK ?kd ?ku ?ho ?hl ?hn ?_; (case k1 => k_asm); (case k2 => k_asm); (case k3 => k_asm); (case k4 => k_asm); (case k5 => k_asm); (case kK => first | exact rfl | assumption); (case kd => ktr_room); (case ku => ktr_units); (case ho => assumption); (case hl => assumption); (case hn => assumption); k_whole); intro _ _ _ _ _)
  trivial
theorem toldT15_7 : True := by
  k_with "call ref" => (k_here; (with_reducible show wpAny _ _ (call (Value.ref 234) _ _) _ _ _); k_dflt (refine' tFirst ?k1 ?k2 ?k3 ?k4 ?k5 ?kK ?kd ?ku ?ki ?kl ?_; (case k1 => k_asm); (case k2 => k_asm); (case k3 => k_asm); (case k4 => k_asm); (case k5 => k_asm); (case kK => first | exact rfl | assumption); (case kd => ktr_room); (case ku => ktr_units); (case ki => assumption); (case kl => assumption); k_whole); intro _ _ _ _ _)
  trivial
theorem toldT15_8 : True := by
  k_with "call ref" => (k_here; (with_reducible show wpAny _ _ (call (Value.ref 251) _ _) _ _ _); k_dflt (refine' tLeft ?k1 ?k2 ?k3 ?k4 ?k5 ?kK ?kd ?ku ?h1 ?h2 ?h3 ?h4 ?h5 ?h6 ?_; (case k1 => k_asm); (case k2 => k_asm); (case k3 => k_asm); (case k4 => k_asm); (case k5 => k_asm); (case kK => first | exact rfl | assumption); (case kd => ktr_room); (case ku => ktr_units); (case h1 => assumption); (case h2 => assumption); (case h3 => assumption); (case h4 => assumption); (case h5 => assumption); (case h6 => assumption); k_whole); intro _ _ _ _ _)
  trivial
theorem toldT15_9 : True := by
  k_with "call ref" => (k_here; (with_reducible show wpAny _ _ (call (Value.ref 227) _ _) _ _ _); k_dflt (refine' use_told ?k1 ?k2 ?k3 ?k4 ?k5 ?kK ?kd ?ku ?hz ?hf ?hf8 ?hz2 ?hz6 ?hn1 ?hn ?hf6 ?_; (case k1 => k_asm); (case k2 => k_asm); (case k3 => k_asm); (case k4 => k_asm); (case k5 => k_asm); (case kK => first | exact rfl | assumption); (case kd => ktr_room); (case ku => ktr_units); (case hz => assumption); (case hf => assumption); (case hf8 => assumption); (case hz2 => assumption); (case hz6 => assumption); (case hn1 => assumption); (case hn => assumption); (case hf6 => assumption); k_whole); intro _ _ _ _ _ _ _ _)
  trivial
theorem toldT15_10 : True := by
  k_with "call ref" => (k_here; (with_reducible show wpAny _ _ (call (Value.ref 227) _ _) _ _ _); k_dflt (refine' use_told6 ?k1 ?k2 ?k3 ?k4 ?k5 ?kK ?kd ?ku ?hz ?hf ?hf8 ?hz2 ?hz6 ?hn1 ?hn ?hf6 ?_; (case k1 => k_asm); (case k2 => k_asm); (case k3 => k_asm); (case k4 => k_asm); (case k5 => k_asm); (case kK => first | exact rfl | assumption); (case kd => ktr_room); (case ku => ktr_units); (case hz => assumption); (case hf => assumption); (case hf8 => assumption); (case hz2 => assumption); (case hz6 => assumption); (case hn1 => assumption); (case hn => assumption); (case hf6 => assumption); k_whole); intro _ _ _ _)
  trivial

theorem toldT15_11 : True := by
  k_with "call type:set cons nil" => (refine halt ?_)
  trivial
theorem toldT15_12 : True := by
  k_with "call builtin:len" => (refine halt ?_)
  trivial
theorem toldT15_13 : True := by
  k_with "subscriptTail Name Name ref int" => (refine halt ?_)
  trivial
theorem toldT15_14 : True := by
  k_with "subscriptTail Name BinOp ref int" => (refine halt ?_)
  trivial
theorem toldT15_15 : True := by
  k_with "call builtin:list.index" => (refine halt ?_)
  trivial
theorem toldT15_16 : True := by
  k_with "exec For Name Call cons nil" => (refine halt ?_)
  trivial
theorem toldT15_17 : True := by
  k_with "exec For Name Name cons nil" => (refine halt ?_)
  trivial
theorem toldT15_18 : True := by
  k_with "call builtin:list.append" => (refine halt ?_)
  trivial
theorem toldT15_19 : True := by
  k_with "truthy ref" => (refine halt ?_)
  trivial
theorem toldT15_20 : True := by
  k_with "compareOp NotEq ref ref" => (refine halt ?_)
  trivial
theorem toldT15_21 : True := by
  k_with "call ref" => (k_here; (with_reducible show wpAny _ _ (call (Value.ref 246) _ _) _ _ _); refine halt ?_)
  trivial
theorem toldT15_22 : True := by
  k_with "exec Assign cons ListComp" => (refine halt ?_)
  trivial
theorem toldT15_23 : True := by
  k_with "CompSrc" => (refine halt ?_)
  trivial
theorem toldT15_24 : True := by
  k_with "SrcLP" => (refine halt ?_)
  trivial
theorem toldT15_25 : True := by
  k_with "pyIter ref" => (refine halt ?_)
  trivial
theorem toldT15_26 : True := by
  k_with "call type:list" => (refine halt ?_)
  trivial
theorem toldT15_27 : True := by
  k_with "exec For Name Subscript cons nil" => (refine halt ?_)
  trivial
theorem law_st : PySem.Challenge.rw_st0018_01.Holds := Mine.hd (by
  k_fill
  intro w s₀ s₁ mg mb G Y fa o pm cd doc dV kV ho hd hcd hD hmg hg args vals as hpre hlay hrd hwl hlo
  have KX := kIn_of Y
  have X := (Ground.X G).1
  have V := (Ground.X G).2
  have GL := glob_more (Ground.glob G (by decide +kernel) (by decide +kernel)) V
  refine Ground.open G ?_
  intro T B D TE TW
  obtain ⟨_, _, M⟩ := bmod_of_top T
  have TA := at_of_top T
  try (obtain ⟨_, _, he, B0⟩ := based_of_top T rfl hmg ho hd; have he' : cd = _ := he; subst he'; clear he)
  clear hmg
  wrow_args hpre hlay hrd hwl hlo
  first | refine callC_kw (enter_call ?_) | refine enter_call ?_ | refine callC_kw (enter_callW ?_) | refine enter_callW ?_
  w_top on
  have K0 := below_caller (Top.heap T)
  w_call any ho hd hcd hD T F
  clear hd TA
  k_drop
  try k_fold
  k_steps
  unfold Halt
  with_reducible (rename Fr _ _ _ _ => F1)
  with_reducible (rename News _ _ _ _ => N1)
  obtain ⟨D1, e1⟩ := head_led N1
  subst e1
  obtain ⟨oc, eoc⟩ := snd_obj N1
  subst eoc
  obtain ⟨x, y, z, t0, t1, t2, k1, e1, e2, e3, e4, e5, e6, e7⟩ := sums_names N1
  subst e1 e2 e3 e4 e5 e6 e7
  have hoc : oc.data = .cell none := ‹oc.data = _›
  obtain ⟨nn, hnn, hn1, hn⟩ := num_n _
  rw [hnn] at F1
  refine LCg.Assign_ListComp_U (F₀ := F1) (by rfl) (by with_unfolding_all rfl) (by with_unfolding_all rfl) (by decide) (by rfl) (by decide) (by rfl) (by rfl) (by rfl) ?_
  k_steps
  unfold Halt
  with_reducible (rename IsRange _ _ _ _ _ _ _ _ => hrg)
  refine LCg.CompSrc.range (n := nn) rfl (by k_asm) (by k_asm) hrg (small_sz (by omega)).1 (small_sz (by omega)).2 (by rw [sizeLine_eq]; omega) ?_
  intro g
  refine restU_ind (fun i ys news' => Grew [(D1, W.listOf #[Value.int _ _, Value.int _ _, Value.int _ _] _), (s₁.heap.objs.size + 1, _)] news' ∧ RowsAre news' ys (rowsAt i 0)) ⟨Grew.rfl' _, ⟨rfl, fun i v hv => by simp at hv⟩⟩ ?dfin ?dturn
  case dturn =>
    intro i ys news' k hi ⟨hg, hr⟩ ih
    intro v I oI C oC D m₂ h tk E' hP hNs hx F2 N2 o3 o4
    obtain ⟨t, rfl⟩ := hP
    try clear F1
    try clear N1
    try k_fold
    k_steps
    with_reducible (rename Fr _ _ _ _ => F3)
    with_reducible (rename News _ _ _ _ => N3)
    rw [mul_dots (by omega), chr_ltr] at N3
    exact drawn_end F3 N3 (by with_reducible assumption) o3 hg hr ih
  intro ys news' ⟨hgw, hr⟩ D h tk F2 N2 o1
  try clear F1
  try clear N1
  k_steps
  unfold Halt
  with_reducible (rename Fr _ _ _ _ => F3)
  with_reducible (rename News _ _ _ _ => N3)
  refine list_copyK F3 N3 (l := D) (items := ys.toArray) ⟨_, (N3 _ (.head _)).1, rfl, _, rfl⟩ ?_ (by rw [sizeLine_eq]; simp [hr.len, rowsAt]; omega)
  intro D3 c3 h3 F4 N4 hlt4
  have hr4 : RowsAre ((D3, W.listOf ys.toArray c3) :: (D, LCg.lst ys) :: news') ys (rowsAt nn 0) := hr.mono fun _ hp => .tail _ (.tail _ hp)
  have hps := rows_clean hn
  have hc4 : (s₁.heap.objs.size + 1, oc) ∈ (D3, W.listOf ys.toArray c3) :: (D, LCg.lst ys) :: news' := .tail _ (.tail _ (hgw.sub _ (.tail _ (.head _))))
  try clear F3
  try clear N3
  k_steps
  with_reducible (rename Fr _ _ _ _ => F5)
  with_reducible (rename News _ _ _ _ => N5)
  k_dflt (refine' storeC F5 N5 ?sc ?soff ?sd ?_ ?sk ?sx)
  case sc => rfl
  case sk => rfl
  case sx => rfl
  case soff =>
    intro q hq
    rcases List.mem_cons.mp hq with rfl | hq
    · assumption
    · exact (by assumption : OwnOff _ [s₁.heap.objs.size + 1]) q hq _ (.head _)
  case sd => exact hoc
  k_whole
  intro h6 oc6 F6 N6 hoc6
  k_steps
  unfold Halt
  with_reducible (rename Fr _ _ _ _ => F7)
  with_reducible (rename News _ _ _ _ => N7)
  obtain ⟨S, eS⟩ := head_led N7
  subst eS
  with_reducible (rename HdrAt _ _ _ => hHl)
  obtain ⟨R, ol, ll, e1, e2, e3⟩ := hdr_names hHl
  subst e1 e2 e3
  have hHw := ‹HdrAt _ _ D3›
  obtain ⟨nw2, o, _, e1, e2, _⟩ := hdr_names hHw
  subst e1 e2
  have hsub4 : ∀ q ∈ (D3, W.listOf ys.toArray c3) :: (D, LCg.lst ys) :: news', q ∈ nw2 := by with_reducible assumption
  have h5 : ∀ q ∈ nw2, q.2 ≠ W.listOf #[] 0 → (∀ v, q.2.data ≠ .cell v) → q ∈ R := by with_reducible assumption
  have hoffc : OwnOff R [s₁.heap.objs.size + 1] := by with_reducible assumption
  have hoffl : OwnOff R [ll] := by with_reducible assumption
  have l7 : @LT.lt Nat _ (s₁.heap.objs.size + 1) S ∧ @LT.lt Nat _ ll S ∧ AllLt S R := by with_reducible assumption
  have hWR := hdr_in hHw h5
  have hrR := rows_in (hr4.mono hsub4) h5
  have hysn := rows_ne hr hn1
  have hD3R : (D3, W.listOf ys.toArray c3) ∈ R := h5 _ (hsub4 _ (.head _)) (list_ne hysn) (fun v e => by cases e)
  have hDR : (D, LCg.lst ys) ∈ R := h5 _ (hsub4 _ (.tail _ (.head _))) (list_ne hysn) (fun v e => by cases e)
  have hD1R : (D1, W.listOf #[Value.int x t0, Value.int y t1, Value.int z t2] k1) ∈ R := h5 _ (hsub4 _ (.tail _ (.tail _ (hgw.sub _ (.head _))))) (list_ne (its := [Value.int x t0, Value.int y t1, Value.int z t2]) (by simp)) (fun v e => by cases e)
  try k_fold
  refine For_genG F7 (.inr ⟨_, _, rfl⟩) ?_
  k_steps
  unfold Halt
  with_reducible (rename Fr _ _ _ _ => F8)
  with_reducible (rename News _ _ _ _ => N8)
  obtain ⟨D4, eD⟩ := head_led N8
  subst eD
  have l8 : @LT.lt Nat _ S D4 ∧ @LT.lt Nat _ (s₁.heap.objs.size + 1) D4 ∧ @LT.lt Nat _ ll D4 ∧ AllLt D4 R := by with_reducible assumption
  have hllc : ll ≠ s₁.heap.objs.size + 1 := by with_reducible assumption
  have hRS := allLt_all l7.2.2
  have hRD := allLt_all l8.2.2.2
  refine ForAtG_list (its := [Value.int y t1, Value.int z t2]) (news := (ll, W.listOf (List.toArray []) 0) :: (S, W.listOf (List.toArray []) 0) :: (s₁.heap.objs.size + 1, oc6) :: (D4, W.listOf #[Value.int y t1, Value.int z t2] 0) :: R) rfl rfl (by rw [hg]; exact AllBare.empty) F8 ?lN (LawJ nn y z o ol ll S (s₁.heap.objs.size + 1) D oc6 ((D4, W.listOf #[Value.int y t1, Value.int z t2] 0) :: R)) ?l0 ?lkeep ?lturn ?ldone
  case lN =>
    refine cb_drop N8 fun q hq => ?_
    rcases List.mem_cons.mp hq with rfl | hq
    · exact .tail _ (.tail _ (.tail _ (.head _)))
    rcases List.mem_cons.mp hq with rfl | hq
    · exact .tail _ (.head _)
    rcases List.mem_cons.mp hq with rfl | hq
    · exact .tail _ (.tail _ (.head _))
    rcases List.mem_cons.mp hq with rfl | hq
    · exact .head _
    · exact .tail _ (.tail _ (.tail _ (.tail _ hq)))
  case l0 =>
    refine ⟨[], 0, [], 0, (D4, W.listOf #[Value.int y t1, Value.int z t2] 0) :: R, rfl, ⟨_, rfl⟩, rfl, rfl, .nil, rfl, fun _ h => h, hHl.mono fun _ h => .tail _ h, ⟨rfl, fun i v hv => by simp at hv⟩, (fun p hp => by cases hp), Nat.le_refl _, fun q hq => ?_⟩
    rcases List.mem_cons.mp hq with rfl | hq
    · exact ⟨neN (by show @Ne Nat D4 ll; omega), neN (by show @Ne Nat D4 S; omega)⟩
    · exact ⟨hoffl q hq ll (.head _), neN (by have := hRS q hq; omega)⟩
  case lkeep =>
    rintro i m₁ news₁ h₁ ⟨sv, ks, itl, nl, R', _, _, _, _, _, rfl, hsub, _⟩ _ N₁
    exact ⟨_, (N₁ _ (.tail _ (.tail _ (.tail _ (hsub _ (.head _)))))).1, rfl, _, rfl⟩
  case ldone =>
    rintro m₁ news₁ h tk Gn hbG ⟨sv, ks, itl, nl, R', e1, ⟨tn, e2⟩, e3, e4, hsv, rfl, hsub, hHR, hrows, hok, hlen, hoff⟩ F₁ N₁
    rw [known e1, known e2, known e3, known e4] at F₁
    obtain ⟨u0, u1, rfl⟩ := two_ints hsv
    have hRR : ∀ q ∈ R, q ∈ R' := fun q hq => hsub _ (.tail _ hq)
    obtain ⟨dW, hW, tW, nW, m1, m2⟩ := hWR.ex
    have m1R := hRR _ m1
    have m2R := hRR _ m2
    have m3R := hRR _ hD3R
    have m4R := hRR _ hDR
    have hrR' := hrR.mono hRR
    clear e1 e2 e3 e4
    have hyl : ys.length = nn := by rw [hr.len]; simp [rowsAt]
    have hyl' : ys.length ≤ 1000 := by omega
    obtain ⟨LD, hLD⟩ : ∃ LD, LD = (ll, W.listOf itl.toArray nl) :: (S, W.listOf #[Value.int ((stepN nn y : Nat) : Int) u0, Value.int ((stepN nn z : Nat) : Int) u1] ks) :: (s₁.heap.objs.size + 1, oc6) :: R' := ⟨_, rfl⟩
    have hLDR : ∀ q ∈ R', q ∈ LD := fun q hq => by rw [hLD]; exact .tail _ (.tail _ (.tail _ hq))
    have hSLD : (S, W.listOf #[Value.int ((stepN nn y : Nat) : Int) u0, Value.int ((stepN nn z : Nat) : Int) u1] ks) ∈ LD := by rw [hLD]; exact .tail _ (.head _)
    have hcLD : (s₁.heap.objs.size + 1, oc6) ∈ LD := by rw [hLD]; exact .tail _ (.tail _ (.head _))
    have m1R := hLDR _ (hRR _ m1)
    have m2R := hLDR _ (hRR _ m2)
    have m3R := hLDR _ (hRR _ hD3R)
    have m4R := hLDR _ (hRR _ hDR)
    have hrL := hrR.mono fun q hq => hLDR _ (hRR q hq)
    have hoL := hWR.mono fun q hq => hLDR _ (hRR q hq)
    have hK : LinksAt LD ol ll itl nl (Gs nn y z 2) := ⟨hHR.mono hLDR, by rw [hLD]; exact .head _, hrows.mono hLDR, hok⟩
    have N₂ := cb_drop (news := LD) N₁ (by rw [hLD]; exact fun _ h => h)
    clear N₁ hLD
    k_steps
    unfold Halt
    with_reducible (rename Fr _ _ _ _ => F2)
    with_reducible (rename News _ _ _ _ => N2)
    refine ne_rows N2 (hrL.mono fun q hq => .tail _ hq) hn (.head _) (.tail _ m4R) (by ktr_units) ?_
    k_steps
    unfold Halt
    with_reducible (rename Fr _ _ _ _ => F3)
    with_reducible (rename News _ _ _ _ => N3)
    have N4 := cb_drop (news := LD) N3 (fun q hq => .tail _ hq)
    clear N3
    try k_fold
    refine LCp.Assign_ListComp_P (F₀ := F3) (by rfl) (by with_unfolding_all rfl) (by with_unfolding_all rfl) (by decide) (by rfl) (by decide) (by rfl) (by rfl) (by decide) (by rfl) (by rfl) ?_
    k_steps
    unfold Halt
    refine LCp.SrcLP.ledger (its := ys.toArray) rfl (by k_asm) (by k_asm) m4R (by rw [sizeLine_eq]; simp; omega) ?_
    intro g
    rw [show ys.toArray.size = nn from by simp [hyl]]
    refine restP_ind (fun i vs news' => news' = LD ∧ LetAre vs i fun k => ltr (root (Gs nn y z 2) 10 k)) ⟨rfl, LetAre.nil⟩ ?ffin ?fturn
    case ffin =>
      rintro vs news' ⟨rfl, hvs⟩ D5 h tk F5 N5 o5
      try clear F3
      try clear F2
      try clear N2
      try clear N4
      dsimp only
      k_steps
      unfold Halt
      with_reducible (rename Fr _ _ _ _ => F6)
      try k_fold
      refine For_gen F6 (.inr ⟨_, _, rfl⟩) ?_
      k_steps
      unfold Halt
      with_reducible (rename Fr _ _ _ _ => F7)
      with_reducible (rename News _ _ _ _ => N7)
      with_reducible (rename IsRange _ _ _ _ _ _ _ _ => hrk)
      have hasks := law_asks hn1 hn y z
      have hvl : vs.length ≤ 1000 := by have := hvs.len; omega
      have hnk : nn ≤ 1000 := by omega
      refine ForAt_range rfl rfl F7 N7 hrk (small_sz (by omega)).1 (small_sz (by omega)).2 (fun k m₁ news₁ => m₁ "found" = some (.ref D5) ∧ (∃ t, m₁ "n" = some (.int nn t)) ∧ m₁ "steps" = some (.ref S) ∧ news₁ = (D5, LCg.lst vs) :: news') ?kp0 ?kturn ?kdone
      case kp0 => exact ⟨rfl, ⟨_, rfl⟩, rfl, rfl⟩
      case kdone =>
        rintro m₁ news₁ h tk ⟨e1, ⟨tn', e2⟩, e3, rfl⟩ F8 N8
        rw [known e1, known e2, known e3] at F8
        clear F7 N7
        try clear F6
        have by1 := stepN_bd (num := y) hn1 hn
        have bz1 := stepN_bd (num := z) hn1 hn
        obtain ⟨g1, g2⟩ := by1
        obtain ⟨g3, g4⟩ := bz1
        k_steps
        unfold Halt
        with_reducible (rename Fr _ _ _ _ => F9)
        with_reducible (rename News _ _ _ _ => N9)
        refine use_setS F9 N9 hvs hn rfl ?_
        intro D6 o6 h6 tk6 F10 N10 hso
        clear F9 N9
        k_steps
        unfold Halt
        refine len_sl1 (own := []) N10 hso (lt63 (Nat.le_trans (fm_le _ _) hnk)) ?_
        have N11 := cb_drop (news := (S, W.listOf #[Value.int ((stepN nn y : Nat) : Int) u0, Value.int ((stepN nn z : Nat) : Int) u1] ks) :: (D6, o6) :: (D5, LCg.lst vs) :: news') N10 (fun q hq => by
          rcases List.mem_cons.mp hq with rfl | hq
          · exact .tail _ (.tail _ hSLD)
          · exact hq)
        clear N10
        k_steps
        with_reducible (rename Fr _ _ _ _ => F12)
        rw [left_true hn1 hn, beq_self_eq_true]
        exact endG F12 (fun _ => rfl) (by first | rfl | wrow_post) hbG
      case kturn =>
        rintro k tk0 m₁ news₁ own h tk hk ⟨e1, ⟨tn', e2⟩, e3, rfl⟩ off F8 N8
        rw [known e1, known e2, known e3] at F8
        clear F7 N7
        rw [show (0 : Int) + (k : Int) * 1 = (k : Int) by omega]
        obtain ⟨a1, a2, a3, a4, a5⟩ := asks_at hasks hk
        obtain ⟨tf, hvk⟩ := hvs.get hk
        have hvk' : vs.toArray[((k : Int)).toNat]? = some (Value.str (ltr (root (Gs nn y z 2) 10 k)) tf) := by simpa using hvk
        have hk63 : (k : Int) < 2 ^ 63 := lt63 (by omega)
        rw [List.cons_append] at N8
        try k_fold
        k_steps
        unfold Halt
        with_reducible (rename Fr _ _ _ _ => F9)
        with_reducible (rename News _ _ _ _ => N9)
        refine item_list ⟨_, (N9 _ (.head _)).1, rfl, _, rfl⟩ (Int.natCast_nonneg _) hk63 hvk' ?_ rfl (by intro _; rfl)
        k_steps
        unfold Halt
        refine item_list ⟨_, (N9 _ (.head _)).1, rfl, _, rfl⟩ (Int.natCast_nonneg _) hk63 hvk' ?_ rfl (by intro _; rfl)
        k_steps
        unfold Halt
        refine index_strs ⟨_, (N9 _ (.head _)).1, rfl, _, rfl⟩ hvs hnk a1 (congrArg ltr a2) (fun m hm e => a3 m hm (ltr_inj e)) ?_
        k_steps
        · exfalso
          exact ne_chr (by assumption)
        unfold Halt
        with_reducible (rename Fr _ _ _ _ => F10)
        try k_fold
        refine For_gen F10 (.inr ⟨_, _, rfl⟩) ?_
        k_steps
        unfold Halt
        with_reducible (rename Fr _ _ _ _ => F11)
        with_reducible (rename News _ _ _ _ => N11)
        refine ForAt_list (l := S) (its := [Value.int ((stepN nn y : Nat) : Int) u0, Value.int ((stepN nn z : Nat) : Int) u1]) rfl rfl F11 N11 (fun i m₁ news₁ => m₁ "found" = some (.ref D5) ∧ (∃ t, m₁ "n" = some (.int nn t)) ∧ m₁ "steps" = some (.ref S) ∧ (∃ t, m₁ "k" = some (.int k t)) ∧ news₁ = (D5, LCg.lst vs) :: (news' ++ own)) ⟨rfl, ⟨_, rfl⟩, rfl, ⟨_, rfl⟩, rfl⟩ ?jkeep ?jturn ?jdone
        case jkeep =>
          rintro i m₁ news₁ h₁ ⟨_, _, _, _, rfl⟩ _ N₁
          exact ⟨_, (N₁ _ (.tail _ (List.mem_append_left _ hSLD))).1, rfl, _, rfl⟩
        case jdone =>
          rintro m₁ news₁ h tk ⟨e1, ⟨tn2, e2⟩, e3, ⟨tk2, e4⟩, rfl⟩ F12 N12
          clear F11 N11
          try clear F9
          try clear N9
          try clear F10
          rw [known e1, known e2, known e3, known e4] at F12
          k_steps
          exact turn_next (news₂ := (D5, LCg.lst vs) :: news') (by k_asm) N12 off ⟨rfl, ⟨_, rfl⟩, rfl, rfl⟩
        case jturn =>
          rintro i v m₁ news₁ own2 h tk hv ⟨e1, ⟨tn2, e2⟩, e3, ⟨tk2, e4⟩, rfl⟩ off2 F12 N12
          obtain ⟨st, ts, rfl, hst⟩ := two_at (P := fun st => st ≤ k → root (Gs nn y z 2) 10 k = root (Gs nn y z 2) 10 (k - st)) hv a4 a5
          rw [known e1, known e2, known e3, known e4] at F12
          rw [List.cons_append] at N12
          clear F11 N11
          try clear F9
          try clear N9
          try clear F10
          try k_fold
          k_steps
          · have hsk : (st : Int) ≤ (k : Int) := by first | assumption | exact of_decide_eq_true (by assumption)
            have hsk' : st ≤ k := Int.ofNat_le.mp hsk
            obtain ⟨tg, hvs2⟩ := hvs.get (j := k - st) (Nat.lt_of_le_of_lt (Nat.sub_le k st) hk)
            have hvs3 : vs.toArray[((k : Int) - (st : Int)).toNat]? = some (Value.str (ltr (root (Gs nn y z 2) 10 k)) tg) := by
              rw [hst hsk', sub_nat hsk']
              simpa using hvs2
            unfold Halt
            with_reducible (rename News _ _ _ _ => N13)
            refine item_list ⟨_, (N13 _ (.head _)).1, rfl, _, rfl⟩ (Int.natCast_nonneg _) hk63 hvk' ?_ rfl (by intro _; rfl)
            k_steps
            unfold Halt
            refine item_list ⟨_, (N13 _ (.head _)).1, rfl, _, rfl⟩ (sub_nn hsk') (sub63 hk63) hvs3 ?_ rfl (by intro _; rfl)
            k_steps
            · exfalso
              exact ne_same (by assumption)
            · with_reducible (rename Fr _ _ _ _ => F14)
              exact turn_next (news₂ := (D5, LCg.lst vs) :: (news' ++ own)) F14 N13 off2 ⟨rfl, ⟨_, rfl⟩, rfl, ⟨_, rfl⟩, rfl⟩
          · with_reducible (rename Fr _ _ _ _ => F14)
            with_reducible (rename News _ _ _ _ => N14)
            exact turn_next (news₂ := (D5, LCg.lst vs) :: (news' ++ own)) F14 N14 off2 ⟨rfl, ⟨_, rfl⟩, rfl, ⟨_, rfl⟩, rfl⟩
    case fturn =>
      rintro i vs news' k hi ⟨rfl, hvs⟩ ih
      intro v hP
      have hP' : ys[i]? = some v := by simpa using hP
      obtain ⟨b, p1, p2, t, u, n, hp, rfl, hm⟩ := hrL.at_ i v hP'
      obtain ⟨_, hpp⟩ := rowsAt_get hp
      have hp1 : p1 = dotS (i + 1 + 0) := (Prod.mk.inj hpp).1
      have hp2 : p2 = ltr i := (Prod.mk.inj hpp).2
      subst hp1 hp2
      refine ⟨b, _, _, _, n, rfl, hm, rfl, rfl, ?_⟩
      intro I oI C oC D2 m₂ h tk E' hNs hx1 hx2 F5 N5 o3 o4
      have hi10 : i < 10 := by omega
      have hK5 := hK.mono (news' := (I, oI) :: (C, oC) :: (D2, LCg.lst vs) :: news') fun q hq => .tail _ (.tail _ (.tail _ hq))
      have hc5 := hcLD
      clear F3 N4
      try clear F2
      try clear N2
      try k_fold
      k_steps
      with_reducible (rename Fr _ _ _ _ => F6)
      with_reducible (rename News _ _ _ _ => N6)
      exact found_end (f := fun k => ltr (root (Gs nn y z 2) 10 k)) (prog := PySem.Challenge.rw_st0018_01.row.prog) F6 N6 o3 (.inr ⟨_, m4R, rfl, _, rfl⟩) hvs ih
  case lturn =>
    rintro i v m₁ news₁ own h tk Gn hv hbG ⟨sv, ks, itl, nl, R', e1, ⟨tn, e2⟩, e3, e4, hsv, rfl, hsub, hHR, hrows, hok, hlen, hoff⟩ off F₁ N₁
    have hi2 : i < 2 := by simpa using (List.getElem?_eq_some_iff.mp hv).1
    obtain ⟨tv, rfl⟩ := num_at hv
    obtain ⟨hz, hz2, hz6, hf, hf8, hx, hx3⟩ := num_parts (numAt y z i)
    rw [known e1, known e2, known e3, known e4] at F₁
    rw [List.cons_append, List.cons_append, List.cons_append] at N₁
    have hown : ∀ q ∈ own, q.1 ≠ ll ∧ q.1 ≠ S ∧ ∀ r ∈ R', q.1 ≠ r.1 := fun q hq => ⟨off q hq ll (.head _), off q hq S (.tail _ (.head _)), fun r hr => off q hq r.1 (.tail _ (.tail _ (.tail _ (List.mem_map_of_mem hr))))⟩
    obtain ⟨RL, hRL⟩ : ∃ RL, RL = (S, W.listOf sv.toArray ks) :: (s₁.heap.objs.size + 1, oc6) :: (R' ++ own) := ⟨_, rfl⟩
    rw [← hRL] at N₁
    have hoffRL : OwnOff RL [ll] := by
      intro q hq b hb
      rw [List.mem_singleton.mp hb]
      rw [hRL] at hq
      rcases List.mem_cons.mp hq with rfl | hq
      · exact neN (by show @Ne Nat S ll; omega)
      rcases List.mem_cons.mp hq with rfl | hq
      · exact hllc.symm
      rcases List.mem_append.mp hq with hq | hq
      · exact (hoff q hq).1
      · exact (hown q hq).1
    have hRsub : ∀ q ∈ R', q ∈ RL := fun q hq => by rw [hRL]; exact .tail _ (.tail _ (List.mem_append_left _ hq))
    have hRR : ∀ q ∈ R, q ∈ RL := fun q hq => hRsub _ (hsub _ (.tail _ hq))
    have hcRL : (s₁.heap.objs.size + 1, oc6) ∈ RL := by rw [hRL]; exact .tail _ (.head _)
    have hoRL := hWR.mono hRR
    have hD3RL := hRR _ hD3R
    have hrwRL := hrR.mono hRR
    have hK : LinksAt ((ll, W.listOf itl.toArray nl) :: RL) ol ll itl nl (Gs nn y z i) := ⟨hHR.mono fun q hq => .tail _ (hRsub q hq), .head _, hrows.mono fun q hq => .tail _ (hRsub q hq), hok⟩
    have hKR : HdrAt RL ol ll ∧ RowsAre RL itl (lk (Gs nn y z i)) := ⟨hHR.mono hRsub, hrows.mono hRsub⟩
    have hrl : (rowsAt nn 0).length ≤ 50 := by simp [rowsAt]; omega
    have hpl := page_len hn
    have hgl : (Gs nn y z i).length ≤ 200 := by omega
    try k_fold
    k_steps
    unfold Halt
    k_dflt (refine' tLay ?k1 ?k2 ?k3 ?k4 ?k5 ?kK ?kXB ?kTB ?kd ?ku hz hf hx hf8 hx3 hz2 hz6 hn1 hn hoRL hD3RL hrwRL hK hKR hoffRL hps hrl hpl ?kbr hgl hok ?kno ?kret)
    case k1 => k_asm
    case k2 => k_asm
    case k3 => k_asm
    case k4 => k_asm
    case k5 => k_asm
    case kK => first | exact rfl | assumption
    case kXB => k_asm
    case kTB => k_asm
    case kd => ktr_room
    case ku => ktr_units
    case kbr => exact hbG
    case kno =>
      intro hf6 h2 tk2 Gm F2 N2 hbm
      have h6 := step6 (nn := nn) hf6
      obtain ⟨X9, hX9⟩ : ∃ X9, X9 = (ll, W.listOf itl.toArray nl) :: (s₁.heap.objs.size + 1, oc6) :: (R' ++ own) := ⟨_, rfl⟩
      have hoX : OwnOff X9 [S] := by
        intro q hq b hb
        rw [List.mem_singleton.mp hb]
        rw [hX9] at hq
        rcases List.mem_cons.mp hq with rfl | hq
        · exact neN (by show @Ne Nat ll S; omega)
        rcases List.mem_cons.mp hq with rfl | hq
        · exact neN (by show @Ne Nat (s₁.heap.objs.size + 1) S; omega)
        rcases List.mem_append.mp hq with hq | hq
        · exact (hoff q hq).2
        · exact (hown q hq).2.1
      have N3 : News _ _ h2 ((S, W.listOf sv.toArray ks) :: X9) := cb_drop N2 fun q hq => by
        rcases List.mem_cons.mp hq with rfl | hq
        · exact .tail _ (by rw [hRL]; exact .head _)
        rw [hX9] at hq
        rcases List.mem_cons.mp hq with rfl | hq
        · exact .head _
        · exact .tail _ (by rw [hRL]; exact .tail _ hq)
      clear N2
      have hsl : sv.length ≤ 1000 := by have := hsv.length; simp at this; omega
      k_steps
      unfold Halt
      with_reducible (rename Fr _ _ _ _ => F4)
      with_reducible (rename News _ _ _ _ => N4)
      refine append_own F4 N4 hoX hsl fun h5 F5 N5 => ?_
      k_steps
      refine turnG_next (news₂ := (ll, W.listOf itl.toArray nl) :: (S, W.listOf (sv ++ [Value.int (nn : Int) tn]).toArray (ks + 1)) :: (s₁.heap.objs.size + 1, oc6) :: ([] ++ R')) hbm (by k_asm) (cb_drop N5 fun q hq => ?_) ?_ (lawJ_next hn rfl rfl rfl rfl hsv ?_ hsub hHR hlen hoff (fun _ h => by cases h) ?_ ?_)
      · rw [List.cons_append, List.cons_append, List.cons_append, List.nil_append] at hq
        rcases List.mem_cons.mp hq with rfl | hq
        · exact .tail _ (by rw [hX9]; exact .head _)
        rcases List.mem_cons.mp hq with rfl | hq
        · exact .head _
        · exact .tail _ (by rw [hX9]; exact .tail _ hq)
      · intro q hq b hb
        obtain ⟨r, hr, rfl⟩ := List.mem_map.mp hb
        rcases List.mem_cons.mp hr with rfl | hr
        · exact (hown q hq).1
        rcases List.mem_cons.mp hr with rfl | hr
        · exact (hown q hq).2.1
        rcases List.mem_cons.mp hr with rfl | hr
        · exact off q hq _ (.tail _ (.tail _ (.head _)))
        · exact (hown q hq).2.2 r hr
      · rw [h6.2]
      · have : Gs nn y z (i + 1) = Gs nn y z i := by
          show layG nn (szN (numAt y z i)) (capN nn (numAt y z i)) 0 (Gs nn y z i) = _
          rw [h6.1]; rfl
        rw [this]
        exact hrows
      · have : Gs nn y z (i + 1) = Gs nn y z i := by
          show layG nn (szN (numAt y z i)) (capN nn (numAt y z i)) 0 (Gs nn y z i) = _
          rw [h6.1]; rfl
        rw [this]
        exact hok
    case kret =>
      intro hf6 HD hts kh itl' nl' rest2 G' h2 tk2 Gm F2 N2 hLR hhts hG' hbm
      obtain ⟨extra, hxa, hxb, hxc⟩ := hLR.ex
      have hGs : G' = Gs nn y z (i + 1) := hG'
      have hSRL : (S, W.listOf sv.toArray ks) ∈ RL := by rw [hRL]; exact .head _
      have hexS : ∀ e ∈ extra, e.1 ≠ ll ∧ e.1 ≠ S := fun e he => ⟨(hLR.off e (by rw [hxa]; exact List.mem_append_left _ he)).1, neN (by have := hxb e he _ hSRL; omega)⟩
      have hHDS : HD ≠ S := ((hLR.off _ (by rw [hxa]; exact List.mem_append_right _ hSRL)).2).symm
      obtain ⟨X9, hX9⟩ : ∃ X9, X9 = (ll, W.listOf itl'.toArray nl') :: (s₁.heap.objs.size + 1, oc6) :: ((extra ++ R') ++ own) := ⟨_, rfl⟩
      have hoX : OwnOff ((HD, W.listOf hts.toArray kh) :: X9) [S] := by
        intro q hq b hb
        rw [List.mem_singleton.mp hb]
        rcases List.mem_cons.mp hq with rfl | hq
        · exact hHDS
        rw [hX9] at hq
        rcases List.mem_cons.mp hq with rfl | hq
        · exact neN (by show @Ne Nat ll S; omega)
        rcases List.mem_cons.mp hq with rfl | hq
        · exact neN (by show @Ne Nat (s₁.heap.objs.size + 1) S; omega)
        rcases List.mem_append.mp hq with hq | hq
        · rcases List.mem_append.mp hq with hq | hq
          · exact (hexS q hq).2
          · exact (hoff q hq).2
        · exact (hown q hq).2.1
      have N3 : News _ _ h2 ((S, W.listOf sv.toArray ks) :: (HD, W.listOf hts.toArray kh) :: X9) := cb_drop N2 fun q hq => by
        rcases List.mem_cons.mp hq with rfl | hq
        · exact .tail _ (.tail _ (by rw [hxa]; exact List.mem_append_right _ hSRL))
        rcases List.mem_cons.mp hq with rfl | hq
        · exact .head _
        rw [hX9] at hq
        rcases List.mem_cons.mp hq with rfl | hq
        · exact .tail _ (.head _)
        rcases List.mem_cons.mp hq with rfl | hq
        · exact .tail _ (.tail _ (by rw [hxa]; exact List.mem_append_right _ hcRL))
        refine .tail _ (.tail _ ?_)
        rw [hxa]
        rcases List.mem_append.mp hq with hq | hq
        · rcases List.mem_append.mp hq with hq | hq
          · exact List.mem_append_left _ hq
          · exact List.mem_append_right _ (hRsub q hq)
        · exact List.mem_append_right _ (by rw [hRL]; exact .tail _ (.tail _ (List.mem_append_right _ hq)))
      clear N2
      have hsl : sv.length ≤ 1000 := by have := hsv.length; simp at this; omega
      have hhl : hts.length ≤ 1000 := by
        have h9 := hhts.length
        rw [List.length_replicate] at h9
        have := many_le (f := fN (numAt y z i)) (sz := szN (numAt y z i)) hn1 hn
        omega
      have hst := (many_step (sz := szN (numAt y z i)) hf8 hf6 hn1).2
      rcases ints_split hhts with ⟨hc0, rfl⟩ | ⟨hc0, t9, hts', rfl⟩
      · rw [if_pos hc0] at hst
        k_steps
        unfold Halt
        with_reducible (rename Fr _ _ _ _ => F4)
        with_reducible (rename News _ _ _ _ => N4)
        with_reducible (rename IntsAre _ _ => hiT)
        refine ne_ints_same ⟨_, (N4 _ (.tail _ (.tail _ (.head _)))).1, rfl, _, rfl⟩ hhts ⟨_, (N4 _ (.head _)).1, rfl, _, rfl⟩ hiT (by ktr_units) ?_
        k_steps
        unfold Halt
        refine truthy_none ⟨_, (N4 _ (.tail _ (.tail _ (.head _)))).1, rfl, _, rfl⟩ ?_
        k_steps
        unfold Halt
        with_reducible (rename Fr _ _ _ _ => F5)
        with_reducible (rename News _ _ _ _ => N5)
        refine append_own F5 (cb_drop N5 fun q hq => .tail _ hq) hoX hsl fun h5 F6 N6 => ?_
        k_steps
        refine turnG_next (news₂ := (ll, W.listOf itl'.toArray nl') :: (S, W.listOf (sv ++ [Value.int (nn : Int) tn]).toArray (ks + 1)) :: (s₁.heap.objs.size + 1, oc6) :: (extra ++ R')) hbm (by k_asm) (cb_drop N6 fun q hq => ?_) ?_ (lawJ_next hn rfl rfl rfl rfl hsv ?_ hsub hHR hlen hoff hexS (hGs ▸ hxc R' hrows) (hGs ▸ hLR.ok))
        · rw [List.cons_append, List.cons_append, List.cons_append] at hq
          rcases List.mem_cons.mp hq with rfl | hq
          · exact .tail _ (.tail _ (by rw [hX9]; exact .head _))
          rcases List.mem_cons.mp hq with rfl | hq
          · exact .head _
          · exact .tail _ (.tail _ (by rw [hX9]; exact .tail _ hq))
        · intro q hq b hb
          obtain ⟨r, hr, rfl⟩ := List.mem_map.mp hb
          rcases List.mem_cons.mp hr with rfl | hr
          · exact (hown q hq).1
          rcases List.mem_cons.mp hr with rfl | hr
          · exact (hown q hq).2.1
          rcases List.mem_cons.mp hr with rfl | hr
          · exact off q hq _ (.tail _ (.tail _ (.head _)))
          rcases List.mem_append.mp hr with hr | hr
          · exact neN (by have := hxb r hr q (by rw [hRL]; exact .tail _ (.tail _ (List.mem_append_right _ hq))); omega)
          · exact (hown q hq).2.2 r hr
        · show _ = ((stepOf nn (szN (numAt y z i)) (capTot (fN (numAt y z i)) (szN (numAt y z i)) nn) : Nat) : Int)
          rw [hst]
      · rw [if_neg hc0] at hst
        k_steps
        unfold Halt
        with_reducible (rename Fr _ _ _ _ => F4)
        with_reducible (rename News _ _ _ _ => N4)
        with_reducible (rename IntsAre _ _ => hiT)
        refine ne_ints_same ⟨_, (N4 _ (.tail _ (.tail _ (.head _)))).1, rfl, _, rfl⟩ hhts ⟨_, (N4 _ (.head _)).1, rfl, _, rfl⟩ hiT (by ktr_units) ?_
        k_steps
        unfold Halt
        refine (truthy_some (by simp only [List.length_cons] at hhl ⊢; omega)) ⟨_, (N4 _ (.tail _ (.tail _ (.head _)))).1, rfl, _, rfl⟩ ?_
        k_steps
        unfold Halt
        with_reducible (rename Fr _ _ _ _ => F5)
        with_reducible (rename News _ _ _ _ => N5)
        refine append_own F5 (cb_drop N5 fun q hq => .tail _ hq) hoX hsl fun h5 F6 N6 => ?_
        rw [rep_getD hc0] at N6
        obtain ⟨t8, et8⟩ := last_tok N6
        subst et8
        k_steps
        refine turnG_next (news₂ := (ll, W.listOf itl'.toArray nl') :: (S, W.listOf (sv ++ [Value.int (szN (numAt y z i) : Int) t8]).toArray (ks + 1)) :: (s₁.heap.objs.size + 1, oc6) :: (extra ++ R')) hbm (by k_asm) (cb_drop N6 fun q hq => ?_) ?_ (lawJ_next hn rfl rfl rfl rfl hsv ?_ hsub hHR hlen hoff hexS (hGs ▸ hxc R' hrows) (hGs ▸ hLR.ok))
        · rw [List.cons_append, List.cons_append, List.cons_append] at hq
          rcases List.mem_cons.mp hq with rfl | hq
          · exact .tail _ (.tail _ (by rw [hX9]; exact .head _))
          rcases List.mem_cons.mp hq with rfl | hq
          · exact .head _
          · exact .tail _ (.tail _ (by rw [hX9]; exact .tail _ hq))
        · intro q hq b hb
          obtain ⟨r, hr, rfl⟩ := List.mem_map.mp hb
          rcases List.mem_cons.mp hr with rfl | hr
          · exact (hown q hq).1
          rcases List.mem_cons.mp hr with rfl | hr
          · exact (hown q hq).2.1
          rcases List.mem_cons.mp hr with rfl | hr
          · exact off q hq _ (.tail _ (.tail _ (.head _)))
          rcases List.mem_append.mp hr with hr | hr
          · exact neN (by have := hxb r hr q (by rw [hRL]; exact .tail _ (.tail _ (List.mem_append_right _ hq))); omega)
          · exact (hown q hq).2.2 r hr
        · show _ = ((stepOf nn (szN (numAt y z i)) (capTot (fN (numAt y z i)) (szN (numAt y z i)) nn) : Nat) : Int)
          rw [hst])
end Mine
end

end
set_option maxRecDepth 100000 in
theorem PySem.Challenge.cw_st0018_01_holds : PySem.Challenge.rw_st0018_01.Holds :=
  Mine.law_st
