import PyProof.Rows.All
import Wide.All
import OpenK.AllK
import Wide.FinOn
import Lean
import PySem.Challenge.RW_qh0025_01
set_option Elab.async false
section
open PySem PySem.W PyProof.Rows
namespace Mine
set_option maxRecDepth 100000
set_option maxHeartbeats 0
/-- the statements of the text that the head looks at, by their places -/
def kept : List Nat := [61]
def vw : Program := view PySem.Challenge.pw_qh0025_01 kept
/-- the names that no statement pins -/
def free : List Str := ["_sre", "_wall", "_twin_re_7", "unmatched", "HEADER_TOKEN_RE", "HEADER_QUOTED_VALUE_RE", "HEADER_VALUE_RE", "HEADER_ESCAPE_RE", "split_header_words", "HEADER_JOIN_TOKEN_RE", "HEADER_JOIN_ESCAPE_RE", "join_header_words", "bytes_types", "_bytes_from_decode_data", "Error", "_ascii_buffer", "_buffer", "_truth", "_B64", "_b64_value", "a2b_base64", "b2a_base64", "b64encode", "b64decode", "S_IMODE", "S_IFMT", "S_IFDIR", "S_IFCHR", "S_IFBLK", "S_IFREG", "S_IFIFO", "S_IFLNK", "S_IFSOCK", "S_ISDIR", "S_ISUID", "S_ISGID", "S_ISVTX", "S_IRUSR", "S_IWUSR", "S_IXUSR", "S_IRGRP", "S_IWGRP", "S_IXGRP", "S_IROTH", "S_IWOTH", "S_IXOTH", "_filemode_table", "filemode", "_law_octets", "_law_mode", "_law_row", "_law_text", "_law_sixes", "_law_signs", "_law_due"].map Str.ofString
theorem look_said : OpenLaw.wellSaid PySem.Challenge.rw_qh0025_01 = true := by
  rw [Fast.te9446332074065402090]; unfold Fast.tw9446332074065402090 Fast.tw17960256430627541270 Fast.tw2436336058641802641 Fast.tw12908688711261696721
  repeat' (with_reducible refine look_both ?_ ?_)
  all_goals (as_aux_lemma => kernel_rfl)
local macro_rules | `(tactic| o_law) => `(tactic| refine holds_law Mine.look_said fun said => ?_)
local macro_rules | `(tactic| o_head $H) => `(tactic| (
  (refine holds_open (q := Mine.vw) (loose := Mine.free) (Xt := fun s => xlAt Mine.vw [] s && recOk (RowW.records PySem.Challenge.rw_qh0025_01.row.toRowW) s) (XP := XL Mine.vw []) (Yf := Hook.obs $H) (Ya := Hook.val $H) (YP := Hook.says $H) (N := 4048) ?hl (Hook.of $H) (Hook.keeps $H) (fun s e => xl_of s (Bool.and_eq_true_iff.mp e).1) XL.keeps (by rfl) (by rfl) (by rfl) (fun s e => recFacts_of (Bool.and_eq_true_iff.mp e).2) (by rfl) (by first | assumption | decide +kernel) (by decide +kernel) ⟨rfl, rfl, rfl, rfl, rfl, by decide +kernel⟩ ?hw ?hc);
  (case hl => (intro w; unfold openEnds fencedOpening topFrom staticsOk namesBound gensDone laidKept; unfold openGood xlAt recOk; (try rw [Fast.te10274390034422433532]); (try rw [Fast.te14364793385576792824]); (try rw [Fast.te1435165496053646825]); (try rw [Fast.te14082659384304107361]); (try rw [Fast.te4187177175401517315]); (try rw [Fast.te5923862056798008813]); (try rw [Fast.te2368527892694137696]); (try rw [Fast.te15056007747304108558]); (try rw [Fast.te4857012375875476094]); (try rw [Fast.te1584917186373303978]); (try rw [Fast.te3471404346716756564]); (try rw [Fast.te14846217769314788766]); (try rw [Fast.te8920871248978507458]); (try rw [Fast.te7966671052430208091]); (try rw [Fast.te12749700546528644094]); (try rw [Fast.te18344453789297297638]); (try rw [Fast.te3247288618530077131]); (try rw [Fast.te821141287760084731]); (try rw [Fast.te964301259703733418]); (try rw [Fast.sDec_eq]); (try rw [R.allR_eq]); (try rw [R.anyR_eq]); kernel_rfl))))
open_top hd for PySem.Challenge.rw_qh0025_01
end Mine
end
section
open PySem PySem.W PyProof.Rows
set_option maxRecDepth 100000
namespace Mine
open PySem.Sre

/-! the machine, step by step -/
def stepN : Nat → M → M
  | 0, m => m
  | n + 1, m => stepN n m.step
theorem stepN_add (a b : Nat) (m : M) : stepN (a + b) m = stepN b (stepN a m) := by
  induction a generalizing m with
  | zero => simp [stepN]
  | succ a ih => rw [Nat.succ_add]; exact ih m.step
theorem step_of_some {m : M} (h : m.outcome.isSome = true) : m.step = m := by unfold M.step; rw [if_pos h]
theorem stepN_of_some {m : M} (h : m.outcome.isSome = true) : ∀ n, stepN n m = m
  | 0 => rfl
  | n + 1 => by show stepN n m.step = m; rw [step_of_some h]; exact stepN_of_some h n
theorem runFor_eq : ∀ (n : Nat) (m : M), M.runFor n m = stepN n m
  | 0, _ => rfl
  | n + 1, m => by
    unfold M.runFor
    split
    · rename_i h; exact (stepN_of_some h _).symm
    · exact runFor_eq n m.step
/-- m comes to e in n steps, and stays there -/
def Comes (m e : M) (n : Nat) : Prop := stepN n m = e
theorem Comes.refl {m : M} : Comes m m 0 := rfl
theorem Comes.one {m e : M} (h : m.step = e) : Comes m e 1 := h
theorem Comes.trans {a b c : M} {i j : Nat} (h : Comes a b i) (k : Comes b c j) : Comes a c (i + j) := by
  unfold Comes at *
  rw [stepN_add, h, k]
theorem Comes.cons {a b c : M} {j : Nat} (h : a.step = b) (k : Comes b c j) : Comes a c (j + 1) := by
  have := (Comes.one h).trans k
  rwa [Nat.add_comm] at this

section
variable {Mo : Model} {A : Around} {E : Value → Shared → Prop} {s : Shared}
theorem drive {Q : M → Shared → Prop} : ∀ (turns : Nat) {m e : M} {n : Nat}, Comes m e n → e.outcome.isSome = true → n ≤ 4 * turns → 0 < turns → Q e s → wpAny Mo A (Builtin.Re.reDrive turns m) Q E s
  | 0, _, _, _, _, _, _, h0, _ => absurd h0 (Nat.lt_irrefl _)
  | turns + 1, m, e, n, hc, he, hn, _, hq => by
    unfold Builtin.Re.reDrive
    rw [runFor_eq]
    show wpAny Mo A (if (stepN 4 m).outcome.isSome = true then pure (stepN 4 m) else _) Q E s
    by_cases h4 : n ≤ 4
    · have e4 : stepN 4 m = e := by
        have : stepN (n + (4 - n)) m = e := by rw [stepN_add, hc]; exact stepN_of_some he _
        rwa [Nat.add_sub_cancel' h4] at this
      rw [e4, if_pos he]
      exact wpAny_pure hq
    · have e5 : stepN (n - 4) (stepN 4 m) = e := by
        rw [← stepN_add, Nat.add_sub_cancel' (by omega)]; exact hc
      by_cases h5 : (stepN 4 m).outcome.isSome = true
      · rw [if_pos h5]
        rw [stepN_of_some h5] at e5
        rw [e5]
        exact wpAny_pure hq
      · rw [if_neg h5]
        exact wpAny_bind (wpAny_rule (drive turns e5 he (by omega) (by omega) hq))
theorem forRules {α : Type} {f : α → PUnit → Sem (ForInStep PUnit)} (hf : ∀ a u (Q : ForInStep PUnit → Shared → Prop), Q (.yield ⟨⟩) s → wpAny Mo A (f a u) Q E s) :
    ∀ (l : List α) {Q : PUnit → Shared → Prop}, Q ⟨⟩ s → wpAny Mo A (forIn l PUnit.unit f) Q E s
  | [], Q, h => by rw [List.forIn_nil]; exact wpAny_pure h
  | a :: r, Q, h => by
    rw [List.forIn_cons]
    exact wpAny_bind (hf a _ _ (forRules hf r h))
theorem runToEnd {Q : Option M → Shared → Prop} {m e : M} {n : Nat} (hc : Comes m e n) (hn : n ≤ 2 ^ 60) (ho : e.outcome = some .matched ∧ Q (some e) s ∨ e.outcome = some .failed ∧ Q none s) :
    wpAny Mo A (Builtin.Re.reRunToEnd m) Q E s := by
  unfold Builtin.Re.reRunToEnd
  have hs : e.outcome.isSome = true := by rcases ho with h | h <;> rw [h.1] <;> rfl
  refine wpAny_bind (drive _ hc hs (by omega) (by omega) ?_)
  refine wpAny_bind (forRules (fun a u Q' h' => ?_) _ ?_)
  · split
    · exact wpAny_bind (wpAny_rule (wpAny_pure h'))
    · exact wpAny_bind (wpAny_pure (wpAny_pure h'))
  · rcases ho with h | h <;> rw [h.1] <;> exact wpAny_pure h.2
end
end Mine
end
section
open PySem PySem.W PyProof.Rows
set_option maxRecDepth 100000
set_option linter.unusedSimpArgs false
set_option linter.unusedVariables false
namespace Mine
open PySem.Sre

/-! one character -/
def Acc (code : Array Nat) (i c : Nat) (b : Bool) : Prop := ∀ seen, ∃ seen', accepts code i c seen = .ok (b, seen')
def InS (code : Array Nat) (i c : Nat) (b : Bool) : Prop := ∀ seen, ∃ seen', inSet code c code.size i true seen = .ok (b, seen')
def fst? {α β : Type} : Except String (α × β) → Option α
  | .ok p => some p.1
  | .error _ => none
theorem fst?_ok {α β : Type} {x : Except String (α × β)} {a : α} (h : fst? x = some a) : ∃ b, x = .ok (a, b) := by
  cases x with
  | error e => cases h
  | ok p => cases h; exact ⟨p.2, rfl⟩
theorem acc_small {code : Array Nat} {i : Nat} {p : Nat → Bool} {b : Bool} (h : (fun s => (List.range 128).all fun c => !p c || fst? (accepts code i c s) == some b) = fun _ => true) : ∀ c, c < 128 → p c = true → Acc code i c b := fun c hc hp s => fst?_ok (by
  have e := List.all_eq_true.mp (congrFun h s) c (List.mem_range.mpr hc)
  rw [hp] at e
  exact eq_of_beq e)
theorem inS_small {code : Array Nat} {i : Nat} {p : Nat → Bool} {b : Bool} (h : (fun s => (List.range 128).all fun c => !p c || fst? (inSet code c code.size i true s) == some b) = fun _ => true) : ∀ c, c < 128 → p c = true → InS code i c b := fun c hc hp s => fst?_ok (by
  have e := List.all_eq_true.mp (congrFun h s) c (List.mem_range.mpr hc)
  rw [hp] at e
  exact eq_of_beq e)
theorem run_is {code text : Array Nat} {i : Nat} : ∀ (k n p found : Nat) (seen : PySem.Sre.Seen), k ≤ n → (∀ j, j < k → Acc code i (text.getD (p + j) 0) true) → (k = n ∨ Acc code i (text.getD (p + k) 0) false) →
    ∃ seen', Sre.run code text i n p found seen = .ok (found + k, seen')
  | 0, 0, p, found, seen, _, _, _ => ⟨seen, rfl⟩
  | 0, n + 1, p, found, seen, _, _, h => by
    rcases h with h | h
    · cases h
    · obtain ⟨s', e⟩ := h seen
      refine ⟨s', ?_⟩
      unfold Sre.run
      rw [Nat.add_zero] at e
      rw [e]; rfl
  | k + 1, 0, _, _, _, h, _, _ => absurd h (by omega)
  | k + 1, n + 1, p, found, seen, hk, hy, hn => by
    obtain ⟨s', e⟩ := hy 0 (by omega) seen
    have ih := run_is (code := code) (text := text) (i := i) k n (p + 1) (found + 1) s' (by omega) (fun j hj => by have := hy (j + 1) (by omega); rwa [show p + (j + 1) = p + 1 + j by omega] at this)
      (by rcases hn with h | h
          · exact .inl (by omega)
          · right; rwa [show p + (k + 1) = p + 1 + k by omega] at h)
    obtain ⟨s'', e2⟩ := ih
    refine ⟨s'', ?_⟩
    unfold Sre.run
    rw [Nat.add_zero] at e
    rw [e]
    show (if true = true then Sre.run code text i n (p + 1) (found + 1) s' else pure (found, s')) = _
    rw [if_pos rfl, e2, show found + 1 + k = found + (k + 1) by omega]

/-! the machine's moves -/
def Come (P : M → Prop) (b : Nat) (m : M) : Prop := ∃ n, n ≤ b ∧ P (stepN n m)
theorem Come.here {P : M → Prop} {b : Nat} {m : M} (h : P m) : Come P b m := ⟨0, Nat.zero_le _, h⟩
theorem Come.next {P : M → Prop} {b : Nat} {m m' : M} (e : m.step = m') (h : Come P b m') : Come P (b + 1) m := by
  obtain ⟨n, hn, hp⟩ := h
  refine ⟨n + 1, by omega, ?_⟩
  show P (stepN n m.step)
  rw [e]; exact hp
theorem Come.le {P : M → Prop} {b b' : Nat} {m : M} (h : Come P b m) (hb : b ≤ b') : Come P b' m := let ⟨n, hn, hp⟩ := h; ⟨n, Nat.le_trans hn hb, hp⟩
theorem Come.mono {P P' : M → Prop} {b : Nat} {m : M} (h : Come P b m) (k : ∀ e, P e → P' e) : Come P' b m := let ⟨n, hn, hp⟩ := h; ⟨n, hn, k _ hp⟩

section
variable {P : M → Prop} {b : Nat} {m : M}
theorem step_exec (ho : m.outcome = none) (ha : m.answer = none) (hpc : m.pc < m.code.size) : m.step = m.exec := by
  unfold M.step
  rw [ho, ha]
  simp [hpc]
theorem go_of {m' : PySem.Sre.Seen → M} (ho : m.outcome = none) (ha : m.answer = none) (hpc : m.pc < m.code.size) (e : ∃ sn, m.exec = m' sn) (k : ∀ sn, Come P b (m' sn)) : Come P (b + 1) m := by
  obtain ⟨sn, e⟩ := e
  exact Come.next ((step_exec ho ha hpc).trans e) (k sn)
theorem pc_lt {code : Array Nat} {pc k : Nat} (h : code.getD pc 0 = k) (hk : k ≠ 0) : pc < code.size := by
  rcases Nat.lt_or_ge pc code.size with hl | hl
  · exact hl
  · exfalso
    rw [Array.getD_eq_getD_getElem?, Array.getElem?_eq_none hl] at h
    exact hk h.symm
/-- what the machine does at a word that is known, read off the model -/
noncomputable def execOp (m : M) (op : Op) : { r : M // ops[m.word 0]? = some op → m.exec = r } := by
  refine ⟨?r, fun h => ?h⟩
  case h => unfold M.exec; rw [h]
theorem exec_is {m : M} {op : Op} (h : ops[m.word 0]? = some op) : m.exec = (execOp m op).1 := (execOp m op).2 h
theorem op_at {m : M} {n : Nat} {op : Op} (hw : m.code.getD m.pc 0 = n) (h : ops[n]? = some op) : ops[m.word 0]? = some op := by
  subst hw; exact h
theorem attempt_is {m : M} {f : Sre.Frame} {g s : Nat} {o : Bool} (h : ¬ m.weight + 1 + f.kept.marks.size > 16777216) : M.attempt m f g s o = { m with frames := f :: m.frames, weight := m.weight + 1 + f.kept.marks.size, pc := g, pos := s, handed := s, outermost := o } := if_neg h
abbrev sawn (m : M) : M := { m with seen := m.seen.add (m.word 0) }
theorem exec_at {m : M} (h : ops[m.word 0]? = some .AT) : m.exec = (match M.isAt (sawn m) ((sawn m).word 1) with
    | .error why => M.stick (sawn m) why
    | .ok yes => if yes then { sawn m with seen := (sawn m).seen.add (43 + (sawn m).word 1), pc := m.pc + 2 } else M.say { sawn m with seen := (sawn m).seen.add (43 + (sawn m).word 1) } false) := (exec_is h).trans rfl
theorem at0 {m : M} (h : ops[m.word 0]? = some .AT) (h1 : m.code.getD (m.pc + 1) 0 = 0) : m.exec = if (m.pos == 0) = true then { sawn m with seen := (sawn m).seen.add (43 + (sawn m).word 1), pc := m.pc + 2 } else M.say { sawn m with seen := (sawn m).seen.add (43 + (sawn m).word 1) } false := by
  rw [exec_at h, show M.isAt (sawn m) ((sawn m).word 1) = .ok (m.pos == 0) from (congrArg (M.isAt (sawn m)) h1).trans rfl]
theorem go_at (ho : m.outcome = none) (ha : m.answer = none) (hw : m.code.getD m.pc 0 = 6) (h1 : m.code.getD (m.pc + 1) 0 = 0) (hp : m.pos = 0)
    (k : ∀ sn, Come P b { m with seen := sn, pc := m.pc + 2 }) : Come P (b + 1) m :=
  go_of ho ha (pc_lt hw (by decide)) ⟨_, (at0 (op_at hw rfl) h1).trans (if_pos (by rw [hp]; rfl))⟩ k
theorem go_at_no (ho : m.outcome = none) (ha : m.answer = none) (hw : m.code.getD m.pc 0 = 6) (h1 : m.code.getD (m.pc + 1) 0 = 0) (hp : m.pos ≠ 0)
    (k : ∀ sn, Come P b { m with seen := sn, answer := some false }) : Come P (b + 1) m :=
  go_of ho ha (pc_lt hw (by decide)) ⟨_, (at0 (op_at hw rfl) h1).trans (if_neg (fun e => hp (eq_of_beq e)))⟩ k
theorem exec_mark {m : M} (h : ops[m.word 0]? = some .MARK) {i : Nat} (h1 : m.code.getD (m.pc + 1) 0 = i) (hi : (i : Int) ≤ m.lastmark + 1) : m.exec = { sawn m with marks := m.marks.setIfInBounds i (some m.pos), lastmark := max m.lastmark i, lastindex := if i % 2 == 1 then ((i / 2 + 1 : Nat) : Int) else m.lastindex, pc := m.pc + 2 } := by
  have e : m.exec = M.mark (sawn m) ((sawn m).word 1) := (exec_is h).trans rfl
  rw [e, show (sawn m).word 1 = i from h1]
  unfold M.mark
  rw [if_pos hi]
theorem go_mark (ho : m.outcome = none) (ha : m.answer = none) (hw : m.code.getD m.pc 0 = 17) {i : Nat} (h1 : m.code.getD (m.pc + 1) 0 = i) (hi : (i : Int) ≤ m.lastmark + 1)
    (k : ∀ sn, Come P b { m with seen := sn, marks := m.marks.setIfInBounds i (some m.pos), lastmark := max m.lastmark i, lastindex := if i % 2 == 1 then ((i / 2 + 1 : Nat) : Int) else m.lastindex, pc := m.pc + 2 }) : Come P (b + 1) m :=
  go_of ho ha (pc_lt hw (by decide)) ⟨_, exec_mark (op_at hw rfl) h1 hi⟩ k
noncomputable def acceptsOp (code : Array Nat) (i c : Nat) (s : PySem.Sre.Seen) (op : Op) : { r // ops[code.getD i 0]? = some op → accepts code i c s = r } := by
  refine ⟨?r, fun h => ?h⟩
  case h => unfold accepts; rw [h]
theorem accepts_lit {code : Array Nat} {i c : Nat} {s : PySem.Sre.Seen} (h : ops[code.getD i 0]? = some .LITERAL) : accepts code i c s = .ok (c == code.getD (i + 1) 0, s) := ((acceptsOp code i c s .LITERAL).2 h).trans rfl
theorem width_lit {code : Array Nat} {i : Nat} (h : ops[code.getD i 0]? = some .LITERAL) : itemWidth code i = 2 := by
  unfold itemWidth; rw [h]
theorem exec_lit {m : M} (h : ops[m.word 0]? = some .LITERAL) : m.exec = if m.pos ≥ m.lim then M.say (sawn m) false else (match accepts m.code m.pc (m.text.getD m.pos 0) (sawn m).seen with
    | .error why => M.stick (sawn m) why
    | .ok (false, seen) => M.say { sawn m with seen := seen } false
    | .ok (true, seen) => { sawn m with seen := seen, pc := m.pc + itemWidth m.code m.pc, pos := m.pos + 1 }) := (exec_is h).trans rfl
theorem go_lit (ho : m.outcome = none) (ha : m.answer = none) (hw : m.code.getD m.pc 0 = 16) {c : Nat} (h1 : m.code.getD (m.pc + 1) 0 = c) (hp : m.pos < m.lim) (hc : m.text.getD m.pos 0 = c)
    (k : ∀ sn, Come P b { m with seen := sn, pc := m.pc + 2, pos := m.pos + 1 }) : Come P (b + 1) m := by
  have h : ops[m.code.getD m.pc 0]? = some .LITERAL := by rw [hw]; rfl
  refine go_of ho ha (pc_lt hw (by decide)) ⟨(sawn m).seen, ?_⟩ k
  rw [exec_lit h, if_neg (Nat.not_le.mpr hp), accepts_lit h, h1, hc, width_lit h, show (c == c) = true from beq_self_eq_true c]
theorem go_lit_no (ho : m.outcome = none) (ha : m.answer = none) (hw : m.code.getD m.pc 0 = 16) {c : Nat} (h1 : m.code.getD (m.pc + 1) 0 = c) (hp : m.lim ≤ m.pos ∨ m.text.getD m.pos 0 ≠ c)
    (k : ∀ sn, Come P b { m with seen := sn, answer := some false }) : Come P (b + 1) m := by
  have h : ops[m.code.getD m.pc 0]? = some .LITERAL := by rw [hw]; rfl
  refine go_of ho ha (pc_lt hw (by decide)) ⟨(sawn m).seen, ?_⟩ k
  rw [exec_lit h]
  by_cases hl : m.lim ≤ m.pos
  · rw [if_pos hl]; rfl
  · rw [if_neg hl, accepts_lit h, h1, beq_eq_false_iff_ne.mpr (hp.resolve_left hl)]; rfl
theorem exec_success {m : M} (h : ops[m.word 0]? = some .SUCCESS) : m.exec = if (m.outermost && ((m.wholeText && m.pos != m.lim) || (m.mustAdvance && m.pos == m.start))) = true then M.say (sawn m) false else M.say { sawn m with handed := m.pos } true := (exec_is h).trans rfl
theorem go_success (ho : m.outcome = none) (ha : m.answer = none) (hw : m.code.getD m.pc 0 = 1) (hf : m.outermost = false ∨ (m.wholeText = true → m.pos = m.lim) ∧ m.mustAdvance = false)
    (k : ∀ sn, Come P b { m with seen := sn, handed := m.pos, answer := some true }) : Come P (b + 1) m := by
  refine go_of ho ha (pc_lt hw (by decide)) ⟨_, (exec_success (op_at hw rfl)).trans (if_neg ?_)⟩ k
  rcases hf with hf | ⟨h1, h2⟩
  · rw [hf]; exact Bool.false_ne_true
  · rw [h2, Bool.false_and, Bool.or_false]
    cases hwt : m.wholeText with
    | false => rw [Bool.false_and, Bool.and_false]; exact Bool.false_ne_true
    | true => rw [h1 hwt, show (m.lim != m.lim) = false from bne_self_eq_false _, Bool.and_false, Bool.and_false]; exact Bool.false_ne_true
theorem go_success_no (ho : m.outcome = none) (ha : m.answer = none) (hw : m.code.getD m.pc 0 = 1) (hf : m.outermost = true) (hwt : m.wholeText = true) (hp : m.pos ≠ m.lim)
    (k : ∀ sn, Come P b { m with seen := sn, answer := some false }) : Come P (b + 1) m :=
  go_of ho ha (pc_lt hw (by decide)) ⟨_, (exec_success (op_at hw rfl)).trans (if_pos (by rw [hf, hwt, bne_iff_ne.mpr hp]; rfl))⟩ k
/-- a run of one item -/
def backFrame (m : M) (r : Nat) : Sre.Frame := { wait := .giveBack, pc := m.pc, pos := m.pos + r, outermost := m.outermost, count := r, kept := { lastmark := m.lastmark, lastindex := m.lastindex, whole := false, marks := #[] } }
def ran (m : M) (skip r : Nat) (sn : Sre.Seen) : M := { m with seen := sn, pos := m.pos + r, handed := m.pos + r, pc := m.pc + 1 + skip, weight := m.weight + 1, frames := backFrame m r :: m.frames }
theorem exec_run {m : M} (h : ops[m.word 0]? = some .REPEAT_ONE) : m.exec = if (((sawn m).word 2 : Nat) : Int) > (m.lim : Int) - m.pos then M.say (sawn m) false else
    (match Sre.run m.code m.text (m.pc + 4) (min ((sawn m).word 3) ((m.lim : Int) - m.pos).toNat) m.pos 0 ((sawn m).seen.add ((sawn m).word 4)) with
    | .error why => M.stick (sawn m) why
    | .ok (n, seen) => if n < (sawn m).word 2 then M.say { sawn m with seen := seen } false else
      M.afterRun { sawn m with seen := seen, pos := m.pos + n } .giveBack n (M.keep { sawn m with seen := seen, pos := m.pos + n } m.inner.isSome)) := (exec_is h).trans rfl
theorem run_room {m : M} (hl : m.pos ≤ m.lim) (hsz : m.lim < 4294967295) : min 4294967295 ((m.lim : Int) - m.pos).toNat = m.lim - m.pos := by
  rw [Int.toNat_sub]
  exact Nat.min_eq_right (Nat.le_of_lt (Nat.lt_of_le_of_lt (Nat.sub_le _ _) hsz))
theorem go_run (ho : m.outcome = none) (ha : m.answer = none) (hw : m.code.getD m.pc 0 = 24) {least skip : Nat} (h1 : m.code.getD (m.pc + 1) 0 = skip) (h2 : m.code.getD (m.pc + 2) 0 = least) (h3 : m.code.getD (m.pc + 3) 0 = 4294967295)
    (hl : m.pos ≤ m.lim) (hsz : m.lim < 4294967295) {r : Nat} (hr : least ≤ r) (hrl : m.pos + r ≤ m.lim) (hy : ∀ j, j < r → Acc m.code (m.pc + 4) (m.text.getD (m.pos + j) 0) true)
    (hn : m.pos + r = m.lim ∨ Acc m.code (m.pc + 4) (m.text.getD (m.pos + r) 0) false) (hi : m.inner = none) (hwt : m.weight < 1000)
    (k : ∀ sn, Come P b (ran m skip r sn)) : Come P (b + 1) m := by
  obtain ⟨sn, er⟩ := run_is (code := m.code) (text := m.text) (i := m.pc + 4) r (m.lim - m.pos) m.pos 0 ((sawn m).seen.add ((sawn m).word 4)) (Nat.le_sub_of_add_le' hrl) hy (hn.imp (fun h => by omega) id)
  refine go_of (m' := ran m skip r) ho ha (pc_lt hw (by decide)) ⟨sn, ?_⟩ k
  have hnl : ¬ ((least : Int) > (m.lim : Int) - m.pos) := by omega
  have hw' : ¬ m.weight + 1 + (#[] : Array (Option Nat)).size > 16777216 := by show ¬ m.weight + 1 + 0 > _; omega
  rw [exec_run (op_at hw rfl), show (sawn m).word 2 = least from h2, show (sawn m).word 3 = 4294967295 from h3, if_neg hnl, run_room hl hsz, er, hi]
  show (if 0 + r < least then _ else _) = _
  rw [if_neg (by omega), Nat.zero_add]
  refine (if_neg hw').trans ?_
  show M.mk _ _ _ _ _ _ _ (m.pc + 1 + m.code.getD (m.pc + 1) 0) _ _ _ _ _ _ _ _ _ _ _ _ _ = _
  rw [h1]
  unfold ran backFrame
  rfl
theorem go_run_no (ho : m.outcome = none) (ha : m.answer = none) (hw : m.code.getD m.pc 0 = 24) (h2 : m.code.getD (m.pc + 2) 0 = 1) (h3 : m.code.getD (m.pc + 3) 0 = 4294967295)
    (hl : m.pos ≤ m.lim) (hsz : m.lim < 4294967295) (hn : m.pos = m.lim ∨ Acc m.code (m.pc + 4) (m.text.getD m.pos 0) false)
    (k : ∀ sn, Come P b { m with seen := sn, answer := some false }) : Come P (b + 1) m := by
  obtain ⟨sn, er⟩ := run_is (code := m.code) (text := m.text) (i := m.pc + 4) 0 (m.lim - m.pos) m.pos 0 ((sawn m).seen.add ((sawn m).word 4)) (Nat.zero_le _) (fun j hj => absurd hj (Nat.not_lt_zero _)) (hn.imp (fun h => by omega) id)
  refine go_of (m' := fun sn => { m with seen := sn, answer := some false }) ho ha (pc_lt hw (by decide)) ?_ k
  rw [exec_run (op_at hw rfl), show (sawn m).word 2 = 1 from h2, show (sawn m).word 3 = 4294967295 from h3, run_room hl hsz, er]
  by_cases hnl : ((1 : Nat) : Int) > (m.lim : Int) - m.pos
  · rw [if_pos hnl]; exact ⟨_, rfl⟩
  · rw [if_neg hnl]; exact ⟨sn, rfl⟩
end
end Mine
end
section
open PySem PySem.W PyProof.Rows
set_option maxRecDepth 100000
set_option linter.unusedSimpArgs false
set_option linter.unusedVariables false
namespace Mine
open PySem.Sre
section
variable {P : M → Prop} {b : Nat} {m : M}
/-- a frame is taken off -/
def popped (m : M) (f : Sre.Frame) (rest : List Sre.Frame) : M := { m with answer := none, frames := rest, weight := m.weight - (1 + f.kept.marks.size), pc := f.pc, pos := f.pos, outermost := f.outermost }
theorem step_pop {f : Sre.Frame} {rest : List Sre.Frame} {y : Bool} (ho : m.outcome = none) (ha : m.answer = some y) (hf : m.frames = f :: rest) : m.step = M.resume (popped m f rest) f y := by
  cases m
  dsimp only at *
  subst ho ha hf
  rfl
theorem pop_yes {f : Sre.Frame} {rest : List Sre.Frame} (ho : m.outcome = none) (ha : m.answer = some true) (hf : m.frames = f :: rest) (hw : f.wait = .giveBack ∨ f.wait = .nextStart)
    (k : Come P b { m with answer := some true, frames := rest, weight := m.weight - (1 + f.kept.marks.size), pc := f.pc, pos := f.pos, outermost := f.outermost }) : Come P (b + 1) m := by
  refine Come.next ((step_pop ho ha hf).trans ?_) k
  unfold M.resume
  rcases hw with h | h <;> rw [h] <;> rfl
theorem pop_last {y : Bool} (ho : m.outcome = none) (ha : m.answer = some y) (hf : m.frames = []) (k : Come P b { m with outcome := some (if y then .matched else .failed) }) : Come P (b + 1) m := by
  refine Come.next ?_ k
  unfold M.step
  rw [ho, ha, hf]
  rfl
theorem resume_back {f : Sre.Frame} (h : f.wait = .giveBack) : M.resume m f false = if f.count - 1 < m.word 2 then M.say (m.putBack f.kept) false else M.afterRun { m.putBack f.kept with pos := f.pos - 1 } .giveBack (f.count - 1) f.kept := by
  obtain ⟨wait, pc', pos', outermost', count, kept, loop, began⟩ := f
  dsimp only at h
  subst h
  rfl
theorem pop_back_no {f : Sre.Frame} {rest : List Sre.Frame} (ho : m.outcome = none) (ha : m.answer = some false) (hf : m.frames = f :: rest) (hw : f.wait = .giveBack) (hk : f.kept.whole = false) {least : Nat} (h2 : m.code.getD (f.pc + 2) 0 = least) (hc : f.count - 1 < least)
    (k : Come P b { m with answer := some false, frames := rest, weight := m.weight - (1 + f.kept.marks.size), pc := f.pc, pos := f.pos, outermost := f.outermost, lastmark := f.kept.lastmark, lastindex := f.kept.lastindex }) : Come P (b + 1) m := by
  obtain ⟨wait, pc', pos', outermost', count, ⟨lm, li, whole, mk⟩, loop, began⟩ := f
  dsimp only at hw hk h2 hc k
  subst hw hk h2
  exact Come.next ((step_pop ho ha hf).trans ((resume_back rfl).trans (if_pos hc))) k
theorem pop_back_again {f : Sre.Frame} {rest : List Sre.Frame} (ho : m.outcome = none) (ha : m.answer = some false) (hf : m.frames = f :: rest) (hw : f.wait = .giveBack) (hk : f.kept.whole = false) (hk0 : f.kept.marks = #[]) {least skip : Nat} (h1 : m.code.getD (f.pc + 1) 0 = skip)
    (h2 : m.code.getD (f.pc + 2) 0 = least) (hc : (least : Int) ≤ f.count - 1) (hwt : m.weight < 1000) (hw0 : 0 < m.weight)
    (k : Come P b { m with answer := none, pc := f.pc + 1 + skip, pos := f.pos - 1, handed := f.pos - 1, outermost := f.outermost, lastmark := f.kept.lastmark, lastindex := f.kept.lastindex, frames := { wait := .giveBack, pc := f.pc, pos := f.pos - 1, outermost := f.outermost, count := f.count - 1, kept := f.kept } :: rest }) : Come P (b + 1) m := by
  obtain ⟨wait, pc', pos', outermost', count, ⟨lm, li, whole, mk⟩, loop, began⟩ := f
  dsimp only at hw hk hk0 h1 h2 hc k
  subst hw hk hk0 h1 h2
  have hw2 : m.weight - 1 + 1 = m.weight := Nat.sub_add_cancel hw0
  refine Come.next ((step_pop ho ha hf).trans ((resume_back rfl).trans ((if_neg (Int.not_lt.mpr hc)).trans (attempt_is (show ¬ m.weight - 1 + 1 + 0 > 16777216 by omega))))) ?_
  show Come P b (M.mk _ _ _ _ _ _ _ _ _ _ _ _ _ _ _ _ _ (m.weight - 1 + 1) _ _ _)
  rw [hw2]
  exact k
def tried (m : M) (s : Nat) (first : Bool) : M := { m with start := s, pos := s, handed := s, lastmark := -1, lastindex := -1, outermost := first, frames := { wait := .nextStart, pc := m.pc, pos := s, outermost := first } :: m.frames, weight := m.weight + 1 }
theorem attemptAt_eq {s : Nat} {first : Bool} (hw : m.weight < 1000) : m.attemptAt s first = tried m s first := by
  have hw' : ¬ m.weight + 1 > 16777216 := by omega
  simp only [M.attemptAt, M.attempt, tried, List.size_toArray, List.length_nil, Nat.add_zero, if_neg hw']
theorem attemptFrom_eq {s : Nat} {first : Bool} (hn : m.hasFirstSet = false) (hw : m.weight < 1000) : m.attemptFrom s first = tried m s first := by
  unfold M.attemptFrom
  rw [hn]
  exact attemptAt_eq hw
theorem pop_next {f : Sre.Frame} {rest : List Sre.Frame} (ho : m.outcome = none) (ha : m.answer = some false) (hf : m.frames = f :: rest) (hw : f.wait = .nextStart) (hk0 : f.kept.marks = #[]) (hs : f.pos < m.lastStart) (hn : m.hasFirstSet = false) (hwt : m.weight < 1000)
    (k : Come P b (tried { m with answer := none, frames := rest, weight := m.weight - 1, pc := f.pc, pos := f.pos, outermost := f.outermost, mustAdvance := false } (f.pos + 1) false)) : Come P (b + 1) m := by
  refine Come.next ((step_pop ho ha hf).trans ?_) k
  unfold M.resume
  rw [hw]
  simp only [popped, hk0, List.size_toArray, List.length_nil, Nat.add_zero, Bool.false_eq_true, if_false, if_pos hs]
  exact attemptFrom_eq hn (by show m.weight - 1 < 1000; omega)
theorem pop_none {f : Sre.Frame} {rest : List Sre.Frame} (ho : m.outcome = none) (ha : m.answer = some false) (hf : m.frames = f :: rest) (hw : f.wait = .nextStart) (hk0 : f.kept.marks = #[]) (hs : ¬ f.pos < m.lastStart)
    (k : Come P b { m with answer := some false, frames := rest, weight := m.weight - 1, pc := f.pc, pos := f.pos, outermost := f.outermost }) : Come P (b + 1) m := by
  refine Come.next ((step_pop ho ha hf).trans ?_) k
  unfold M.resume
  rw [hw]
  simp only [popped, hk0, List.size_toArray, List.length_nil, Nat.add_zero, Bool.false_eq_true, if_false, if_neg hs]
  rfl
end
def failed (m : M) : Prop := m.outcome = some .failed
/-- an anchored pattern behind the text's start: every further start fails -/
theorem anchor_fails : ∀ (d : Nat) (m : M) (s : Nat) (first : Bool), m.outcome = none → m.answer = none → m.code.getD m.pc 0 = 6 → m.code.getD (m.pc + 1) 0 = 0 → m.hasFirstSet = false → m.weight < 900 → m.frames = [] → 1 ≤ s → m.lastStart ≤ s + d →
    Come failed (3 * d + 3) (tried m s first) := by
    intro d
    induction d using Nat.strongRecOn with
    | _ d ih =>
    intro m s first ho ha hw h1 hfs hwt hfr hs hd
    refine (go_at_no (b := 3 * d + 2) ho ha hw h1 (by show s ≠ 0; omega) fun sn => ?_)
    by_cases hl : s < m.lastStart
    · cases d with
      | zero => omega
      | succ d =>
        refine Come.le (b := 3 * d + 3 + 1) ?_ (by omega)
        refine pop_next (f := { wait := .nextStart, pc := m.pc, pos := s, outermost := first }) (rest := []) (by exact ho) rfl (by show _ :: m.frames = _; rw [hfr]) rfl rfl hl hfs (by show m.weight + 1 < 1000; omega) ?_
        exact ih d (Nat.lt_succ_self d) { m with seen := sn, start := s, pos := s, handed := s, lastmark := -1, lastindex := -1, answer := none, frames := [], weight := m.weight + 1 - 1, pc := m.pc, outermost := first, mustAdvance := false } (s + 1) false ho rfl hw h1 hfs (by show m.weight + 1 - 1 < 900; omega) rfl (by omega) (by show m.lastStart ≤ _; omega)
    · refine Come.le (b := 0 + 1 + 1) ?_ (by omega)
      refine pop_none (f := { wait := .nextStart, pc := m.pc, pos := s, outermost := first }) (rest := []) (by exact ho) rfl (by show _ :: m.frames = _; rw [hfr]) rfl rfl hl ?_
      exact pop_last (by exact ho) rfl rfl (Come.here rfl)
end Mine
end
section
open PySem PySem.W PyProof.Rows
set_option maxRecDepth 100000
set_option linter.unusedSimpArgs false
set_option linter.unusedVariables false
namespace Mine
open PySem.Sre
def tokenCode : Array Nat := #[14, 4, 0, 1, 4294967295, 6, 0, 24, 9, 0, 4294967295, 13, 4, 8, 12, 0, 1, 17, 0, 24, 19, 1, 4294967295, 13, 14, 21, 9, 0, 671092736, 0, 0, 0, 0, 0, 0, 8, 12, 0, 1, 17, 1, 1]
def quotedCode : Array Nat := #[14, 4, 0, 3, 4294967295, 6, 0, 24, 9, 0, 4294967295, 13, 4, 8, 12, 0, 1, 16, 61, 24, 9, 0, 4294967295, 13, 4, 8, 12, 0, 1, 16, 34, 17, 0, 24, 12, 0, 4294967295, 13, 7, 21, 16, 34, 16, 92, 0, 1, 23, 19, 0, 4294967295, 16, 92, 2, 24, 12, 0, 4294967295, 13, 7, 21, 16, 34, 16, 92, 0, 1, 18, 17, 1, 16, 34, 1]
def valueCode : Array Nat := #[14, 4, 0, 1, 4294967295, 6, 0, 24, 9, 0, 4294967295, 13, 4, 8, 12, 0, 1, 16, 61, 24, 9, 0, 4294967295, 13, 4, 8, 12, 0, 1, 17, 0, 24, 14, 0, 4294967295, 13, 9, 21, 8, 12, 16, 59, 16, 44, 0, 1, 17, 1, 1]
def escapeCode : Array Nat := #[14, 8, 1, 2, 2, 1, 1, 92, 0, 16, 92, 17, 0, 2, 17, 1, 1]
def twinCode : Array Nat := #[14, 4, 0, 0, 4294967295, 6, 0, 24, 13, 0, 4294967295, 13, 8, 16, 61, 8, 12, 16, 59, 0, 1, 1]
def joinTokenCode : Array Nat := #[14, 4, 0, 1, 4294967295, 24, 16, 1, 4294967295, 13, 11, 9, 0, 67071226, 3355443198, 1476395007, 0, 0, 0, 0, 0, 1, 1]
def joinEscapeCode : Array Nat := #[14, 9, 4, 1, 1, 16, 34, 16, 92, 0, 17, 0, 13, 6, 16, 34, 16, 92, 0, 17, 1, 1]
def letC (c : Nat) : Bool := (97 ≤ c && c ≤ 122)
def bareC (c : Nat) : Bool := (48 ≤ c && c ≤ 57) || (65 ≤ c && c ≤ 90) || (97 ≤ c && c ≤ 122) || c == 43 || c == 45
def goodC (c : Nat) : Bool := bareC c || c == 47 || c == 61
theorem lt_of_good {c : Nat} (h : goodC c = true) : c < 128 := by
  simp only [goodC, bareC, Bool.or_eq_true, Bool.and_eq_true, decide_eq_true_eq, beq_iff_eq] at h
  omega
theorem good_of_bare {c : Nat} (h : bareC c = true) : goodC c = true := by simp [goodC, h]
theorem bare_of_let {c : Nat} (h : letC c = true) : bareC c = true := by
  simp only [letC, bareC, Bool.or_eq_true, Bool.and_eq_true, decide_eq_true_eq, beq_iff_eq] at h ⊢
  omega
def ends (c : Nat) : Bool := c == 61 || c == 59 || c == 44
/-- all of a set's answers below 128 -/
theorem tk_let : ∀ c, c < 128 → letC c = true → Acc tokenCode 23 c true := acc_small (by kernel_rfl)
theorem tk_end : ∀ c, c < 128 → ends c = true → Acc tokenCode 23 c false := acc_small (by kernel_rfl)
theorem tk_blank : ∀ c, c < 128 → (c == 32) = true → Acc tokenCode 11 c true := acc_small (by kernel_rfl)
theorem tk_noblank : ∀ c, c < 128 → (letC c || ends c) = true → Acc tokenCode 11 c false := acc_small (by kernel_rfl)
theorem getD_list (l : List Nat) (i : Nat) : l.toArray.getD i 0 = l.getD i 0 := by simp [List.getD]
theorem getD_l {a r : List Nat} {i : Nat} (h : i < a.length) : (a ++ r).getD i 0 = a.getD i 0 := by simp [List.getD, List.getElem?_append_left h]
theorem getD_r {a r : List Nat} {i : Nat} : (a ++ r).getD (a.length + i) 0 = r.getD i 0 := by simp [List.getD, List.getElem?_append_right]
theorem getD_mem {l : List Nat} {i : Nat} (h : i < l.length) : l.getD i 0 ∈ l := by
  rw [List.getD_eq_getElem?_getD, List.getElem?_eq_getElem h]; exact List.getElem_mem h
/-- what a search that hits hands on -/
def Hit (st hd : Nat) (mk : Array (Option Nat)) (lm : Int) (e : M) : Prop := e.outcome = some .matched ∧ e.start = st ∧ e.handed = hd ∧ e.marks = mk ∧ e.lastmark = lm
def atStart (code t : Array Nat) (g last : Nat) : M := { code := code, text := t, lim := t.size, start := 0, lastStart := last, pc := 5, pos := 0, handed := 0, marks := Array.replicate (2 * g) none, seen := ({} : Sre.Seen).add 14 }
theorem token_start {t : Array Nat} (h : 0 < t.size) : forSearch tokenCode t 1 0 t.size false = tried (atStart tokenCode t 1 t.size) 0 true := by
  unfold forSearch
  have h1 : ¬ (decide (0 > t.size) || decide (t.size - 0 < (header tokenCode).1)) = true := by
    have : (header tokenCode).1 = 1 := rfl
    rw [this]; simp only [Bool.or_eq_true, decide_eq_true_eq]; omega
  dsimp only
  rw [if_neg h1]
  exact (attemptFrom_eq rfl (Nat.le_of_ble_eq_true rfl)).trans rfl
theorem token_hit {b k r : List Nat} (hb : b = [] ∨ b = [32]) (hk : k ≠ []) (hkc : ∀ c ∈ k, letC c = true) (hr : r = [] ∨ ∃ c r', r = c :: r' ∧ ends c = true) (hlen : (b ++ (k ++ r)).length < 4294967295) :
    Come (Hit 0 (b.length + k.length) #[some b.length, some (b.length + k.length)] 1) 20 (forSearch tokenCode (b ++ (k ++ r)).toArray 1 0 (b ++ (k ++ r)).toArray.size false) := by
  have hk1 : 0 < k.length := List.length_pos_iff.mpr hk
  have hsz : (b ++ (k ++ r)).toArray.size = b.length + (k.length + r.length) := by simp
  have hlt : ∀ c ∈ k, c < 128 := fun c hc => lt_of_good (good_of_bare (bare_of_let (hkc c hc)))
  have ek : ∀ j, j < k.length → (b ++ (k ++ r)).toArray.getD (b.length + j) 0 = k.getD j 0 := fun j hj => by rw [getD_list, getD_r, getD_l hj]
  have hl : (b ++ (k ++ r)).toArray.size < 4294967295 := by simpa using hlen
  rw [token_start (by rw [hsz]; omega)]
  generalize ht : (b ++ (k ++ r)).toArray = t at *
  refine go_at rfl rfl rfl rfl rfl fun s1 => ?_
  refine go_run (least := 0) (r := b.length) rfl rfl rfl rfl rfl rfl (Nat.zero_le _) hl (Nat.zero_le _) (by show 0 + b.length ≤ t.size; omega) ?_ (.inr ?_) rfl (Nat.le_of_ble_eq_true rfl) fun s2 => ?_
  · intro j hj
    have : b = [32] := hb.resolve_left (fun e => by rw [e] at hj; exact absurd hj (Nat.not_lt_zero _))
    show Acc tokenCode 11 (t.getD (0 + j) 0) true
    rw [← ht, getD_list, Nat.zero_add, getD_l hj, this]
    have hj0 : j = 0 := by rw [this] at hj; simp at hj; exact hj
    subst hj0
    exact (tk_blank 32 (by decide) rfl)
  · show Acc tokenCode 11 (t.getD (0 + b.length) 0) false
    have := ek 0 hk1
    rw [Nat.zero_add, show b.length = b.length + 0 from rfl, this]
    exact (tk_noblank _ (hlt _ (getD_mem hk1)) (by rw [hkc _ (getD_mem hk1)]; rfl))
  refine go_mark (i := 0) rfl rfl rfl rfl (by show (0 : Int) ≤ -1 + 1; omega) fun s3 => ?_
  refine go_run (least := 1) (r := k.length) rfl rfl rfl rfl rfl rfl (by show 0 + b.length ≤ t.size; omega) hl hk1 (by show 0 + b.length + k.length ≤ t.size; omega) ?_ ?_ rfl (Nat.le_of_ble_eq_true rfl) fun s4 => ?_
  · intro j hj
    show Acc tokenCode 23 (t.getD (0 + b.length + j) 0) true
    rw [Nat.zero_add, ek j hj]
    exact (tk_let _ (hlt _ (getD_mem hj)) (hkc _ (getD_mem hj)))
  · rcases hr with h | ⟨c, r', h, hc⟩
    · left
      show 0 + b.length + k.length = t.size
      rw [hsz, h]; simp
    · right
      show Acc tokenCode 23 (t.getD (0 + b.length + k.length) 0) false
      have : t.getD (0 + b.length + k.length) 0 = c := by
        rw [← ht, getD_list, Nat.zero_add, getD_r, show k.length = k.length + 0 from rfl, getD_r, h]; rfl
      rw [this]
      refine (tk_end c ?_ hc)
      simp only [ends, Bool.or_eq_true, beq_iff_eq] at hc
      omega
  refine go_mark (i := 1) rfl rfl rfl rfl (by show (1 : Int) ≤ max (-1) 0 + 1; omega) fun s5 => ?_
  refine go_success rfl rfl rfl (.inr ⟨fun h => (nomatch h), rfl⟩) fun s6 => ?_
  refine pop_yes rfl rfl rfl (.inl rfl) ?_
  refine pop_yes rfl rfl rfl (.inl rfl) ?_
  refine pop_yes rfl rfl rfl (.inr rfl) ?_
  refine pop_last rfl rfl rfl (Come.here ⟨rfl, rfl, ?_, ?_, rfl⟩)
  · show 0 + b.length + k.length = _; omega
  · show #[some (0 + b.length), some (0 + b.length + k.length)] = _
    rw [Nat.zero_add]
/-- the first try has failed: the others fail too -/
theorem miss0 {m : M} (ho : m.outcome = none) (ha : m.answer = some false) (hf : m.frames = [{ wait := .nextStart, pc := 5, pos := 0, outermost := true }]) (h5 : m.code.getD 5 0 = 6) (h6 : m.code.getD 6 0 = 0) (hn : m.hasFirstSet = false) (hw : m.weight < 900) {n : Nat} (hl : m.lastStart ≤ n) :
    Come failed (3 * n + 9) m := by
  by_cases h0 : 0 < m.lastStart
  · refine Come.le (b := 3 * n + 3 + 1) ?_ (by omega)
    refine pop_next ho ha hf rfl rfl h0 hn (by omega) ?_
    exact anchor_fails n _ 1 false ho rfl h5 h6 hn (by show m.weight - 1 < 900; omega) rfl (Nat.le_refl _) (by show m.lastStart ≤ _; omega)
  · refine Come.le (b := 0 + 1 + 1) ?_ (by omega)
    refine pop_none ho ha hf rfl rfl h0 ?_
    exact pop_last ho rfl rfl (Come.here rfl)
/-- the text opens with a sign that no name takes -/
theorem token_miss {c : Nat} {r : List Nat} (hc : ends c = true) (hlen : (c :: r).length < 4294967295) :
    Come failed (3 * (c :: r).length + 20) (forSearch tokenCode (c :: r).toArray 1 0 (c :: r).toArray.size false) := by
  have hsz : (c :: r).toArray.size = r.length + 1 := by simp
  have hl : (c :: r).toArray.size < 4294967295 := by simpa using hlen
  have e0 : (c :: r).toArray.getD 0 0 = c := by rw [getD_list]; rfl
  have hc' : c < 128 := by
    simp only [ends, Bool.or_eq_true, beq_iff_eq] at hc
    omega
  rw [token_start (by rw [hsz]; omega)]
  generalize ht : (c :: r).toArray = t at *
  refine Come.le (b := 3 * t.size + 9 + 1 + 1 + 1 + 1 + 1) ?_ (by rw [hsz, List.length_cons]; omega)
  refine go_at rfl rfl rfl rfl rfl fun s1 => ?_
  refine go_run (least := 0) (r := 0) rfl rfl rfl rfl rfl rfl (Nat.zero_le _) hl (Nat.zero_le _) (Nat.zero_le _) (fun j hj => absurd hj (Nat.not_lt_zero _)) (.inr ?_) rfl (Nat.le_of_ble_eq_true rfl) fun s2 => ?_
  · show Acc tokenCode 11 (t.getD 0 0) false
    rw [e0]
    exact (tk_noblank _ hc' (by rw [hc, Bool.or_true]))
  refine go_mark (i := 0) rfl rfl rfl rfl (by show (0 : Int) ≤ -1 + 1; omega) fun s3 => ?_
  refine go_run_no rfl rfl rfl rfl rfl (Nat.zero_le _) hl (.inr ?_) fun s4 => ?_
  · show Acc tokenCode 23 (t.getD 0 0) false
    rw [e0]
    exact (tk_end _ hc' hc)
  refine pop_back_no (least := 0) rfl rfl rfl rfl rfl rfl (by show ((0 : Nat) : Int) - 1 < (0 : Nat); omega) ?_
  exact miss0 rfl rfl rfl rfl rfl rfl (Nat.le_of_ble_eq_true rfl) (Nat.le_refl _)

/-! a value between quotation marks -/
theorem q_noblank : ∀ c, c < 128 → (goodC c || ends c || c == 34) = true → Acc quotedCode 11 c false := acc_small (by kernel_rfl)
theorem q_noblank2 : ∀ c, c < 128 → (goodC c || ends c || c == 34) = true → Acc quotedCode 23 c false := acc_small (by kernel_rfl)
theorem q_good : ∀ c, c < 128 → goodC c = true → Acc quotedCode 37 c true := acc_small (by kernel_rfl)
theorem q_mark : ∀ c, c < 128 → (c == 34) = true → Acc quotedCode 37 c false := acc_small (by kernel_rfl)
theorem quoted_start {t : Array Nat} (h : 3 ≤ t.size) : forSearch quotedCode t 1 0 t.size false = tried (atStart quotedCode t 1 (max 0 (t.size - 2))) 0 true := by
  unfold forSearch
  have h1 : ¬ (decide (0 > t.size) || decide (t.size - 0 < (header quotedCode).1)) = true := by
    have : (header quotedCode).1 = 3 := rfl
    rw [this]; simp only [Bool.or_eq_true, decide_eq_true_eq]; omega
  dsimp only
  rw [if_neg h1]
  exact (attemptFrom_eq rfl (Nat.le_of_ble_eq_true rfl)).trans rfl
theorem quoted_short {t : Array Nat} (h : t.size < 3) : Come failed 1 (forSearch quotedCode t 1 0 t.size false) := by
  have e : forSearch quotedCode t 1 0 t.size false = { atStart quotedCode t 1 0 with answer := some false } := by
    unfold forSearch
    have h1 : (decide (0 > t.size) || decide (t.size - 0 < (header quotedCode).1)) = true := by
      have : (header quotedCode).1 = 3 := rfl
      rw [this]; simp only [Bool.or_eq_true, decide_eq_true_eq]; omega
    dsimp only
    rw [if_pos h1]
    rfl
  rw [e]
  exact pop_last rfl rfl rfl (Come.here rfl)
section
variable {P : M → Prop} {b : Nat} {m : M}
theorem go_repeat (ho : m.outcome = none) (ha : m.answer = none) (hw : m.code.getD m.pc 0 = 23) {skip : Nat} (h1 : m.code.getD (m.pc + 1) 0 = skip) (hwt : m.weight < 1000)
    (k : ∀ sn, Come P b { m with seen := sn, loops := m.loops.push { pc := m.pc, outer := m.inner }, inner := some m.loops.size, frames := { wait := .closeLoop, pc := m.pc, pos := m.pos, outermost := m.outermost, loop := m.loops.size } :: m.frames, weight := m.weight + 1, pc := m.pc + 1 + skip, handed := m.pos }) : Come P (b + 1) m := by
  subst h1
  refine go_of ho ha (pc_lt hw (by decide)) ?_ k
  exact ⟨_, (exec_is (op_at (op := .REPEAT) hw rfl)).trans (attempt_is (show ¬ m.weight + 1 + 0 > 16777216 by omega))⟩
end
end Mine
end
section
open PySem PySem.W PyProof.Rows
set_option maxRecDepth 100000
set_option linter.unusedSimpArgs false
set_option linter.unusedVariables false
namespace Mine
open PySem.Sre
theorem getD_r0 {a r : List Nat} : (a ++ r).getD a.length 0 = r.getD 0 0 := getD_r (i := 0)
theorem good_ne {c : Nat} (h : goodC c = true) : c ≠ 34 ∧ c ≠ 92 := by
  simp only [goodC, bareC, Bool.or_eq_true, Bool.and_eq_true, decide_eq_true_eq, beq_iff_eq] at h
  omega
theorem ends_lt {c : Nat} (hc : ends c = true) : c < 128 := by
  simp only [ends, Bool.or_eq_true, beq_iff_eq] at hc
  omega
section
variable {P : M → Prop} {b : Nat} {m : M}
def moreFrame (m : M) : Sre.Frame := { wait := .maxMore, pc := m.pc + 1, pos := m.pos, outermost := m.outermost, loop := 0, count := 0, kept := { lastmark := m.lastmark, lastindex := m.lastindex, whole := true, marks := m.marks.extract 0 (m.lastmark + 1).toNat }, began := none }
theorem go_until (ho : m.outcome = none) (ha : m.answer = none) (hw : m.code.getD m.pc 0 = 18) {q : Nat} (hi : m.inner = some 0) (hlo : m.loops = #[{ pc := q, count := -1, began := none, outer := none }]) (h2 : m.code.getD (q + 2) 0 = 0) (h3 : m.code.getD (q + 3) 0 = 4294967295)
    (hwt : m.weight + (m.marks.extract 0 (m.lastmark + 1).toNat).size < 1000)
    (k : ∀ sn, Come P b { m with seen := sn, loops := #[{ pc := q, count := 0, began := some m.pos, outer := none }], frames := moreFrame m :: m.frames, weight := m.weight + 1 + (m.marks.extract 0 (m.lastmark + 1).toNat).size, pc := q + 4, handed := m.pos }) : Come P (b + 1) m := by
  obtain ⟨code, text, lim, start, lastStart, wholeText, mustAdvance, pc, pos, handed, outermost, marks, lastmark, lastindex, loops, inner, frames, weight, answer, seen, outcome⟩ := m
  dsimp only at ho ha hw hi hlo h2 h3 hwt
  subst ho ha hi hlo
  refine go_of rfl rfl (pc_lt hw (by decide)) ?_ k
  exact ⟨_, (exec_is (op_at (op := .MAX_UNTIL) hw rfl)).trans ((if_neg (show ¬ ((-1 : Int) + 1 < ((code.getD (q + 2) 0 : Nat) : Int)) by rw [h2]; decide)).trans ((if_neg Bool.false_ne_true).trans ((if_pos (show ((decide ((-1 : Int) + 1 < ((code.getD (q + 3) 0 : Nat) : Int)) || code.getD (q + 3) 0 == maxRepeat) && (none : Option Nat) != some pos) = true by rw [h3]; rfl)).trans (attempt_is (show ¬ weight + 1 + (marks.extract 0 (lastmark + 1).toNat).size > 16777216 by omega)))))⟩
theorem pop_more_no {f : Sre.Frame} {rest : List Sre.Frame} {q p0 : Nat} (ho : m.outcome = none) (ha : m.answer = some false) (hf : m.frames = f :: rest) (hw : f.wait = .maxMore) (hl : f.loop = 0) (hc : f.count = 0) (hb : f.began = none) (hk : f.kept.whole = true)
    (hlo : m.loops = #[{ pc := q, count := 0, began := some p0, outer := none }]) (hwt : m.weight < 1000)
    (k : Come P b { m with answer := none, marks := f.kept.marks ++ m.marks.extract f.kept.marks.size m.marks.size, lastmark := f.kept.lastmark, lastindex := f.kept.lastindex, loops := #[{ pc := q, count := -1, began := none, outer := none }], inner := none, frames := { wait := .maxTail, pc := f.pc, pos := f.pos, outermost := f.outermost, loop := 0, count := 0, kept := { lastmark := f.kept.lastmark, lastindex := f.kept.lastindex, whole := false, marks := #[] } } :: rest, weight := m.weight - (1 + f.kept.marks.size) + 1, pc := f.pc, pos := f.pos, handed := f.pos, outermost := f.outermost }) : Come P (b + 1) m := by
  obtain ⟨code, text, lim, start, lastStart, wholeText, mustAdvance, pc, pos, handed, outermost, marks, lastmark, lastindex, loops, inner, frames, weight, answer, seen, outcome⟩ := m
  obtain ⟨wait, pc', pos', outermost', count, ⟨lm, li, whole, mk⟩, loop, began⟩ := f
  dsimp only at ho ha hf hw hl hc hb hk hlo hwt k
  subst ho ha hf hw hl hc hb hk hlo
  exact Come.next ((step_pop (f := ⟨.maxMore, pc', pos', outermost', 0, ⟨lm, li, true, mk⟩, 0, none⟩) (rest := rest) (y := false) rfl rfl rfl).trans (attempt_is (show ¬ weight - (1 + mk.size) + 1 + 0 > 16777216 by omega))) k
theorem pop_tail {f : Sre.Frame} {rest : List Sre.Frame} (ho : m.outcome = none) (ha : m.answer = some true) (hf : m.frames = f :: rest) (hw : f.wait = .maxTail)
    (k : Come P b { m with answer := some true, frames := rest, weight := m.weight - (1 + f.kept.marks.size), pc := f.pc, pos := f.pos, outermost := f.outermost, inner := some f.loop }) : Come P (b + 1) m := by
  refine Come.next ((step_pop ho ha hf).trans ?_) k
  unfold M.resume
  rw [hw]; rfl
theorem pop_close {f : Sre.Frame} {rest : List Sre.Frame} (ho : m.outcome = none) (ha : m.answer = some true) (hf : m.frames = f :: rest) (hw : f.wait = .closeLoop)
    (k : Come P b { m with answer := some true, frames := rest, weight := m.weight - (1 + f.kept.marks.size), pc := f.pc, pos := f.pos, outermost := f.outermost, inner := (m.loopAt f.loop).outer, loops := m.loops.pop }) : Come P (b + 1) m := by
  refine Come.next ((step_pop ho ha hf).trans ?_) k
  unfold M.resume
  rw [hw]; rfl
end
end Mine
end
section
open PySem PySem.W PyProof.Rows
set_option maxRecDepth 100000
set_option linter.unusedSimpArgs false
set_option linter.unusedVariables false
namespace Mine
open PySem.Sre
theorem quoted_hit {v r : List Nat} (hv : ∀ c ∈ v, goodC c = true) (hlen : (61 :: 34 :: (v ++ 34 :: r)).length < 4294967295) :
    Come (Hit 0 (v.length + 3) #[some 2, some (v.length + 2)] 1) 40 (forSearch quotedCode (61 :: 34 :: (v ++ 34 :: r)).toArray 1 0 (61 :: 34 :: (v ++ 34 :: r)).toArray.size false) := by
  have hsz : (61 :: 34 :: (v ++ 34 :: r)).toArray.size = v.length + r.length + 3 := by simp; omega
  have hl : (61 :: 34 :: (v ++ 34 :: r)).toArray.size < 4294967295 := by simpa using hlen
  have e0 : (61 :: 34 :: (v ++ 34 :: r)).toArray.getD 0 0 = 61 := rfl
  have e1 : (61 :: 34 :: (v ++ 34 :: r)).toArray.getD 1 0 = 34 := rfl
  have ev : ∀ j, j < v.length → (61 :: 34 :: (v ++ 34 :: r)).toArray.getD (2 + j) 0 = v.getD j 0 := fun j hj => by
    rw [getD_list, Nat.add_comm]; show (v ++ 34 :: r).getD j 0 = _; rw [getD_l hj]
  have ee : (61 :: 34 :: (v ++ 34 :: r)).toArray.getD (2 + v.length) 0 = 34 := by
    rw [getD_list, Nat.add_comm]; show (v ++ 34 :: r).getD v.length 0 = _; rw [getD_r0]; rfl
  rw [quoted_start (by rw [hsz]; omega)]
  generalize ht : (61 :: 34 :: (v ++ 34 :: r)).toArray = t at *
  refine go_at rfl rfl rfl rfl rfl fun s1 => ?_
  dsimp only [tried, atStart]
  refine go_run (least := 0) (r := 0) rfl rfl rfl rfl rfl rfl (Nat.zero_le _) hl (Nat.zero_le _) (Nat.zero_le _) (fun j hj => absurd hj (Nat.not_lt_zero _)) (.inr ?_) rfl (Nat.le_of_ble_eq_true rfl) fun s2 => ?_
  · show Acc quotedCode 11 (t.getD 0 0) false
    rw [e0]
    exact (q_noblank 61 (by decide) (by decide))
  dsimp only [ran, backFrame]
  refine go_lit (c := 61) rfl rfl rfl rfl (by show 0 < t.size; omega) e0 fun s3 => ?_
  dsimp only
  refine go_run (least := 0) (r := 0) rfl rfl rfl rfl rfl rfl (by show 1 ≤ t.size; omega) hl (Nat.zero_le _) (by show 1 ≤ t.size; omega) (fun j hj => absurd hj (Nat.not_lt_zero _)) (.inr ?_) rfl (Nat.le_of_ble_eq_true rfl) fun s4 => ?_
  · show Acc quotedCode 23 (t.getD 1 0) false
    rw [e1]
    exact (q_noblank2 34 (by decide) (by decide))
  dsimp only [ran, backFrame]
  refine go_lit (c := 34) rfl rfl rfl rfl (by show 1 < t.size; omega) e1 fun s5 => ?_
  dsimp only
  refine go_mark (i := 0) rfl rfl rfl rfl (by show (0 : Int) ≤ -1 + 1; omega) fun s6 => ?_
  dsimp only
  refine go_run (least := 0) (r := v.length) rfl rfl rfl rfl rfl rfl (by show 2 ≤ t.size; omega) hl (Nat.zero_le _) (by show 2 + v.length ≤ t.size; omega) ?_ (.inr ?_) rfl (Nat.le_of_ble_eq_true rfl) fun s7 => ?_
  · intro j hj
    show Acc quotedCode 37 (t.getD (2 + j) 0) true
    rw [ev j hj]
    exact (q_good _ (lt_of_good (hv _ (getD_mem hj))) (hv _ (getD_mem hj)))
  · show Acc quotedCode 37 (t.getD (2 + v.length) 0) false
    rw [ee]
    exact (q_mark 34 (by decide) (by decide))
  dsimp only [ran, backFrame]
  refine go_repeat rfl rfl rfl rfl (Nat.le_of_ble_eq_true rfl) fun s8 => ?_
  dsimp only
  refine go_until (q := 46) rfl rfl rfl rfl rfl rfl rfl (by show 5 + 1 < 1000; omega) fun s8' => ?_
  dsimp only [moreFrame]
  refine go_lit_no (c := 92) rfl rfl rfl rfl (.inr ?_) fun s9 => ?_
  · show t.getD (2 + v.length) 0 ≠ 92
    rw [ee]; decide
  dsimp only
  refine pop_more_no rfl rfl rfl rfl rfl rfl rfl rfl rfl (by show 5 + 1 + 1 < 1000; omega) ?_
  dsimp only
  refine go_mark (i := 1) rfl rfl rfl rfl (by show (1 : Int) ≤ 0 + 1; omega) fun s10 => ?_
  dsimp only
  refine go_lit (c := 34) rfl rfl rfl rfl (by show 2 + v.length < t.size; omega) ee fun s11 => ?_
  dsimp only
  refine go_success rfl rfl rfl (.inr ⟨fun h => (nomatch h), rfl⟩) fun s12 => ?_
  dsimp only
  refine pop_tail rfl rfl rfl rfl ?_
  dsimp only
  refine pop_close rfl rfl rfl rfl ?_
  dsimp only
  refine pop_yes rfl rfl rfl (.inl rfl) ?_
  dsimp only
  refine pop_yes rfl rfl rfl (.inl rfl) ?_
  dsimp only
  refine pop_yes rfl rfl rfl (.inl rfl) ?_
  dsimp only
  refine pop_yes rfl rfl rfl (.inr rfl) ?_
  dsimp only
  refine pop_last rfl rfl rfl (Come.here ⟨rfl, rfl, ?_, ?_, rfl⟩)
  · show 2 + v.length + 1 = _; omega
  · show #[some 2, some (2 + v.length)] = _
    rw [Nat.add_comm]
end Mine
end
section
open PySem PySem.W PyProof.Rows
set_option maxRecDepth 100000
set_option linter.unusedSimpArgs false
set_option linter.unusedVariables false
namespace Mine
open PySem.Sre
theorem ends2 {c : Nat} (h : c = 59 ∨ c = 44) : ends c = true := by rcases h with rfl | rfl <;> rfl
theorem quoted_miss_sep {c : Nat} {r : List Nat} (hc : c = 59 ∨ c = 44) (hlen : (c :: r).length < 4294967295) (h3 : 3 ≤ (c :: r).toArray.size) :
    Come failed (3 * (c :: r).length + 20) (forSearch quotedCode (c :: r).toArray 1 0 (c :: r).toArray.size false) := by
  have hsz : (c :: r).toArray.size = r.length + 1 := by simp
  have hl : (c :: r).toArray.size < 4294967295 := by simpa using hlen
  have e0 : (c :: r).toArray.getD 0 0 = c := rfl
  rw [quoted_start h3]
  refine Come.le (b := 3 * (c :: r).toArray.size + 9 + 1 + 1 + 1 + 1) ?_ (by rw [hsz, List.length_cons]; omega)
  generalize ht : (c :: r).toArray = t at *
  refine go_at rfl rfl rfl rfl rfl fun s1 => ?_
  dsimp only [tried, atStart]
  refine go_run (least := 0) (r := 0) rfl rfl rfl rfl rfl rfl (Nat.zero_le _) hl (Nat.zero_le _) (Nat.zero_le _) (fun j hj => absurd hj (Nat.not_lt_zero _)) (.inr ?_) rfl (Nat.le_of_ble_eq_true rfl) fun s2 => ?_
  · show Acc quotedCode 11 (t.getD 0 0) false
    rw [e0]
    exact (q_noblank c (ends_lt (ends2 hc)) (by rw [ends2 hc]; simp))
  dsimp only [ran, backFrame]
  refine go_lit_no (c := 61) rfl rfl rfl rfl (.inr ?_) fun s3 => ?_
  · show t.getD 0 0 ≠ 61
    rw [e0]; rcases hc with rfl | rfl <;> decide
  dsimp only
  refine pop_back_no (least := 0) rfl rfl rfl rfl rfl rfl (by show ((0 : Nat) : Int) - 1 < (0 : Nat); omega) ?_
  dsimp only
  exact miss0 rfl rfl rfl rfl rfl rfl (Nat.le_of_ble_eq_true rfl) (by show max 0 (t.size - 2) ≤ t.size; omega)
theorem quoted_miss_bare {c : Nat} {r : List Nat} (hc : bareC c = true) (hlen : (61 :: c :: r).length < 4294967295) (h3 : 3 ≤ (61 :: c :: r).toArray.size) :
    Come failed (3 * (61 :: c :: r).length + 20) (forSearch quotedCode (61 :: c :: r).toArray 1 0 (61 :: c :: r).toArray.size false) := by
  have hsz : (61 :: c :: r).toArray.size = r.length + 2 := by simp
  have hl : (61 :: c :: r).toArray.size < 4294967295 := by simpa using hlen
  have e0 : (61 :: c :: r).toArray.getD 0 0 = 61 := rfl
  have e1 : (61 :: c :: r).toArray.getD 1 0 = c := rfl
  rw [quoted_start h3]
  refine Come.le (b := 3 * (61 :: c :: r).toArray.size + 9 + 1 + 1 + 1 + 1 + 1 + 1 + 1) ?_ (by rw [hsz, List.length_cons, List.length_cons]; omega)
  generalize ht : (61 :: c :: r).toArray = t at *
  refine go_at rfl rfl rfl rfl rfl fun s1 => ?_
  dsimp only [tried, atStart]
  refine go_run (least := 0) (r := 0) rfl rfl rfl rfl rfl rfl (Nat.zero_le _) hl (Nat.zero_le _) (Nat.zero_le _) (fun j hj => absurd hj (Nat.not_lt_zero _)) (.inr ?_) rfl (Nat.le_of_ble_eq_true rfl) fun s2 => ?_
  · show Acc quotedCode 11 (t.getD 0 0) false
    rw [e0]
    exact (q_noblank 61 (by decide) (by decide))
  dsimp only [ran, backFrame]
  refine go_lit (c := 61) rfl rfl rfl rfl (by show 0 < t.size; omega) e0 fun s3 => ?_
  dsimp only
  refine go_run (least := 0) (r := 0) rfl rfl rfl rfl rfl rfl (by show 1 ≤ t.size; omega) hl (Nat.zero_le _) (by show 1 ≤ t.size; omega) (fun j hj => absurd hj (Nat.not_lt_zero _)) (.inr ?_) rfl (Nat.le_of_ble_eq_true rfl) fun s4 => ?_
  · show Acc quotedCode 23 (t.getD 1 0) false
    rw [e1]
    exact (q_noblank2 c (lt_of_good (good_of_bare hc)) (by rw [good_of_bare hc]; rfl))
  dsimp only [ran, backFrame]
  refine go_lit_no (c := 34) rfl rfl rfl rfl (.inr ?_) fun s5 => ?_
  · show t.getD 1 0 ≠ 34
    rw [e1]; exact (good_ne (good_of_bare hc)).1
  dsimp only
  refine pop_back_no (least := 0) rfl rfl rfl rfl rfl rfl (by show ((0 : Nat) : Int) - 1 < (0 : Nat); omega) ?_
  dsimp only
  refine pop_back_no (least := 0) rfl rfl rfl rfl rfl rfl (by show ((0 : Nat) : Int) - 1 < (0 : Nat); omega) ?_
  dsimp only
  exact miss0 rfl rfl rfl rfl rfl rfl (Nat.le_of_ble_eq_true rfl) (by show max 0 (t.size - 2) ≤ t.size; omega)
theorem quoted_miss {t : List Nat} (hlen : t.length < 4294967295) (h : t = [] ∨ (∃ c r, t = c :: r ∧ (c = 59 ∨ c = 44)) ∨ ∃ c r, t = 61 :: c :: r ∧ bareC c = true) :
    Come failed (3 * t.length + 20) (forSearch quotedCode t.toArray 1 0 t.toArray.size false) := by
  by_cases h3 : t.toArray.size < 3
  · exact (quoted_short h3).le (by omega)
  · rcases h with rfl | ⟨c, r, rfl, hc⟩ | ⟨c, r, rfl, hc⟩
    · exact absurd (by simp) h3
    · exact quoted_miss_sep hc hlen (by omega)
    · exact quoted_miss_bare hc hlen (by omega)

/-! a bare value -/
theorem v_noblank : ∀ c, c < 128 → (goodC c || ends c) = true → Acc valueCode 11 c false := acc_small (by kernel_rfl)
theorem v_noblank2 : ∀ c, c < 128 → (goodC c || ends c) = true → Acc valueCode 23 c false := acc_small (by kernel_rfl)
theorem v_bare : ∀ c, c < 128 → bareC c = true → Acc valueCode 35 c true := acc_small (by kernel_rfl)
theorem v_sep : ∀ c, c < 128 → (c == 59 || c == 44) = true → Acc valueCode 35 c false := acc_small (by kernel_rfl)
theorem value_start {t : Array Nat} (h : 1 ≤ t.size) : forSearch valueCode t 1 0 t.size false = tried (atStart valueCode t 1 t.size) 0 true := by
  unfold forSearch
  have h1 : ¬ (decide (0 > t.size) || decide (t.size - 0 < (header valueCode).1)) = true := by
    have : (header valueCode).1 = 1 := rfl
    rw [this]; simp only [Bool.or_eq_true, decide_eq_true_eq]; omega
  dsimp only
  rw [if_neg h1]
  exact (attemptFrom_eq rfl (Nat.le_of_ble_eq_true rfl)).trans rfl
theorem value_short : Come failed 1 (forSearch valueCode #[] 1 0 (#[] : Array Nat).size false) := pop_last rfl rfl rfl (Come.here rfl)
theorem value_hit {v r : List Nat} (hv0 : v ≠ []) (hv : ∀ c ∈ v, bareC c = true) (hr : r = [] ∨ ∃ c r', r = c :: r' ∧ (c = 59 ∨ c = 44)) (hlen : (61 :: (v ++ r)).length < 4294967295) :
    Come (Hit 0 (v.length + 1) #[some 1, some (v.length + 1)] 1) 40 (forSearch valueCode (61 :: (v ++ r)).toArray 1 0 (61 :: (v ++ r)).toArray.size false) := by
  have hv1 : 0 < v.length := List.length_pos_iff.mpr hv0
  have hsz : (61 :: (v ++ r)).toArray.size = v.length + r.length + 1 := by simp
  have hl : (61 :: (v ++ r)).toArray.size < 4294967295 := by simpa using hlen
  have e0 : (61 :: (v ++ r)).toArray.getD 0 0 = 61 := rfl
  have ev : ∀ j, j < v.length → (61 :: (v ++ r)).toArray.getD (1 + j) 0 = v.getD j 0 := fun j hj => by
    rw [getD_list, Nat.add_comm]; show (v ++ r).getD j 0 = _; rw [getD_l hj]
  have ee : (61 :: (v ++ r)).toArray.getD (1 + v.length) 0 = r.getD 0 0 := by
    rw [getD_list, Nat.add_comm]; show (v ++ r).getD v.length 0 = _; rw [getD_r0]
  rw [value_start (by rw [hsz]; omega)]
  generalize ht : (61 :: (v ++ r)).toArray = t at *
  refine go_at rfl rfl rfl rfl rfl fun s1 => ?_
  dsimp only [tried, atStart]
  refine go_run (least := 0) (r := 0) rfl rfl rfl rfl rfl rfl (Nat.zero_le _) hl (Nat.zero_le _) (Nat.zero_le _) (fun j hj => absurd hj (Nat.not_lt_zero _)) (.inr ?_) rfl (Nat.le_of_ble_eq_true rfl) fun s2 => ?_
  · show Acc valueCode 11 (t.getD 0 0) false
    rw [e0]
    exact (v_noblank 61 (by decide) (by decide))
  dsimp only [ran, backFrame]
  refine go_lit (c := 61) rfl rfl rfl rfl (by show 0 < t.size; omega) e0 fun s3 => ?_
  dsimp only
  refine go_run (least := 0) (r := 0) rfl rfl rfl rfl rfl rfl (by show 1 ≤ t.size; omega) hl (Nat.zero_le _) (by show 1 ≤ t.size; omega) (fun j hj => absurd hj (Nat.not_lt_zero _)) (.inr ?_) rfl (Nat.le_of_ble_eq_true rfl) fun s4 => ?_
  · show Acc valueCode 23 (t.getD 1 0) false
    rw [show (1 : Nat) = 1 + 0 from rfl, ev 0 hv1]
    exact (v_noblank2 _ (lt_of_good (good_of_bare (hv _ (getD_mem hv1)))) (by rw [good_of_bare (hv _ (getD_mem hv1))]; rfl))
  dsimp only [ran, backFrame]
  refine go_mark (i := 0) rfl rfl rfl rfl (by show (0 : Int) ≤ -1 + 1; omega) fun s6 => ?_
  dsimp only
  refine go_run (least := 0) (r := v.length) rfl rfl rfl rfl rfl rfl (by show 1 ≤ t.size; omega) hl (Nat.zero_le _) (by show 1 + v.length ≤ t.size; omega) ?_ ?_ rfl (Nat.le_of_ble_eq_true rfl) fun s7 => ?_
  · intro j hj
    show Acc valueCode 35 (t.getD (1 + j) 0) true
    rw [ev j hj]
    exact (v_bare _ (lt_of_good (good_of_bare (hv _ (getD_mem hj)))) (hv _ (getD_mem hj)))
  · rcases hr with h | ⟨c, r', h, hc⟩
    · left
      show 1 + v.length = t.size
      rw [hsz, h]; simp; omega
    · right
      show Acc valueCode 35 (t.getD (1 + v.length) 0) false
      rw [ee, h]
      exact (v_sep c (ends_lt (ends2 hc)) (by rcases hc with rfl | rfl <;> rfl))
  dsimp only [ran, backFrame]
  refine go_mark (i := 1) rfl rfl rfl rfl (by show (1 : Int) ≤ max (-1) 0 + 1; omega) fun s10 => ?_
  dsimp only
  refine go_success rfl rfl rfl (.inr ⟨fun h => (nomatch h), rfl⟩) fun s12 => ?_
  dsimp only
  refine pop_yes rfl rfl rfl (.inl rfl) ?_
  dsimp only
  refine pop_yes rfl rfl rfl (.inl rfl) ?_
  dsimp only
  refine pop_yes rfl rfl rfl (.inl rfl) ?_
  dsimp only
  refine pop_yes rfl rfl rfl (.inr rfl) ?_
  dsimp only
  refine pop_last rfl rfl rfl (Come.here ⟨rfl, rfl, ?_, ?_, rfl⟩)
  · show 1 + v.length = _; omega
  · show #[some 1, some (1 + v.length)] = _
    rw [Nat.add_comm]
theorem value_miss {t : List Nat} (hlen : t.length < 4294967295) (h : t = [] ∨ ∃ c r, t = c :: r ∧ (c = 59 ∨ c = 44)) :
    Come failed (3 * t.length + 20) (forSearch valueCode t.toArray 1 0 t.toArray.size false) := by
  rcases h with rfl | ⟨c, r, rfl, hc⟩
  · exact value_short.le (by simp)
  have hsz : (c :: r).toArray.size = r.length + 1 := by simp
  have hl : (c :: r).toArray.size < 4294967295 := by simpa using hlen
  have e0 : (c :: r).toArray.getD 0 0 = c := rfl
  rw [value_start (by rw [hsz]; omega)]
  refine Come.le (b := 3 * (c :: r).toArray.size + 9 + 1 + 1 + 1 + 1) ?_ (by rw [hsz, List.length_cons]; omega)
  generalize ht : (c :: r).toArray = t at *
  refine go_at rfl rfl rfl rfl rfl fun s1 => ?_
  dsimp only [tried, atStart]
  refine go_run (least := 0) (r := 0) rfl rfl rfl rfl rfl rfl (Nat.zero_le _) hl (Nat.zero_le _) (Nat.zero_le _) (fun j hj => absurd hj (Nat.not_lt_zero _)) (.inr ?_) rfl (Nat.le_of_ble_eq_true rfl) fun s2 => ?_
  · show Acc valueCode 11 (t.getD 0 0) false
    rw [e0]
    exact (v_noblank c (ends_lt (ends2 hc)) (by rw [ends2 hc]; simp))
  dsimp only [ran, backFrame]
  refine go_lit_no (c := 61) rfl rfl rfl rfl (.inr ?_) fun s3 => ?_
  · show t.getD 0 0 ≠ 61
    rw [e0]; rcases hc with rfl | rfl <;> decide
  dsimp only
  refine pop_back_no (least := 0) rfl rfl rfl rfl rfl rfl (by show ((0 : Nat) : Int) - 1 < (0 : Nat); omega) ?_
  dsimp only
  exact miss0 rfl rfl rfl rfl rfl rfl (Nat.le_of_ble_eq_true rfl) (Nat.le_refl _)
end Mine
end
section
open PySem PySem.W PyProof.Rows
set_option maxRecDepth 100000
set_option linter.unusedSimpArgs false
set_option linter.unusedVariables false
namespace Mine
open PySem.Sre
/-! no backslash: nothing is found -/
theorem lit_fails : ∀ (d : Nat) (m : M) (s : Nat) (first : Bool) (c : Nat), m.outcome = none → m.answer = none → m.code.getD m.pc 0 = 16 → m.code.getD (m.pc + 1) 0 = c → m.hasFirstSet = false → m.weight < 900 → m.frames = [] → (∀ i, i < m.lim → m.text.getD i 0 ≠ c) → m.lastStart ≤ s + d →
    Come failed (3 * d + 3) (tried m s first) := by
    intro d
    induction d using Nat.strongRecOn with
    | _ d ih =>
    intro m s first c ho ha hw h1 hfs hwt hfr hne hd
    refine (go_lit_no (b := 3 * d + 2) (c := c) ho ha hw h1 (by
      show m.lim ≤ s ∨ m.text.getD s 0 ≠ c
      rcases Nat.lt_or_ge s m.lim with h | h
      · exact .inr (hne s h)
      · exact .inl h) fun sn => ?_)
    by_cases hl : s < m.lastStart
    · cases d with
      | zero => omega
      | succ d =>
        refine Come.le (b := 3 * d + 3 + 1) ?_ (by omega)
        refine pop_next (f := { wait := .nextStart, pc := m.pc, pos := s, outermost := first }) (rest := []) (by exact ho) rfl (by show _ :: m.frames = _; rw [hfr]) rfl rfl hl hfs (by show m.weight + 1 < 1000; omega) ?_
        exact ih d (Nat.lt_succ_self d) { m with seen := sn, start := s, pos := s, handed := s, lastmark := -1, lastindex := -1, answer := none, frames := [], weight := m.weight + 1 - 1, pc := m.pc, outermost := first, mustAdvance := false } (s + 1) false c ho rfl hw h1 hfs (by show m.weight + 1 - 1 < 900; omega) rfl hne (by show m.lastStart ≤ _; omega)
    · refine Come.le (b := 0 + 1 + 1) ?_ (by omega)
      refine pop_none (f := { wait := .nextStart, pc := m.pc, pos := s, outermost := first }) (rest := []) (by exact ho) rfl (by show _ :: m.frames = _; rw [hfr]) rfl rfl hl ?_
      exact pop_last (by exact ho) rfl rfl (Come.here rfl)
theorem escape_miss {v : List Nat} (hv : ∀ c ∈ v, goodC c = true) : Come failed (3 * v.length + 20) (forSearch escapeCode v.toArray 1 0 v.toArray.size false) := by
  have hne : ∀ i, i < v.toArray.size → v.toArray.getD i 0 ≠ 92 := fun i hi => by
    rw [getD_list]
    exact (good_ne (hv _ (getD_mem (by simpa using hi)))).2
  have hsz : v.toArray.size = v.length := by simp
  by_cases h2 : v.toArray.size < 2
  · have e : forSearch escapeCode v.toArray 1 0 v.toArray.size false = { atStart escapeCode v.toArray 1 0 with pc := 9, answer := some false } := by
      unfold forSearch
      have h1 : (decide (0 > v.toArray.size) || decide (v.toArray.size - 0 < (header escapeCode).1)) = true := by
        have : (header escapeCode).1 = 2 := rfl
        rw [this]; simp only [Bool.or_eq_true, decide_eq_true_eq]; omega
      dsimp only
      rw [if_pos h1]
      rfl
    rw [e]
    refine Come.le (b := 0 + 1) ?_ (by omega)
    exact pop_last rfl rfl rfl (Come.here rfl)
  · have e : forSearch escapeCode v.toArray 1 0 v.toArray.size false = tried { atStart escapeCode v.toArray 1 v.toArray.size with pc := 9 } 0 true := by
      unfold forSearch
      have h1 : ¬ (decide (0 > v.toArray.size) || decide (v.toArray.size - 0 < (header escapeCode).1)) = true := by
        have : (header escapeCode).1 = 2 := rfl
        rw [this]; simp only [Bool.or_eq_true, decide_eq_true_eq]; omega
      dsimp only
      rw [if_neg h1]
      exact (attemptFrom_eq rfl (Nat.le_of_ble_eq_true rfl)).trans rfl
    rw [e]
    refine (lit_fails v.toArray.size _ 0 true 92 rfl rfl rfl rfl rfl (Nat.le_of_ble_eq_true rfl) rfl hne (by show v.toArray.size ≤ _; omega)).le (by omega)
/-! no mark at all -/
theorem admitted_none {m : M} : ∀ (fuel s : Nat) (seen : Sre.Seen), (∀ i, i < m.lim → InS m.code 5 (m.text.getD i 0) false) → ∃ seen', M.admitted m fuel s seen = .ok (none, seen')
  | 0, _, seen, _ => ⟨seen, rfl⟩
  | fuel + 1, s, seen, h => by
    unfold M.admitted
    by_cases hs : s ≥ m.lim
    · rw [if_pos hs]; exact ⟨_, rfl⟩
    · rw [if_neg hs]
      obtain ⟨sn, e⟩ := h s (by omega) seen
      rw [e]
      exact admitted_none fuel (s + 1) sn h
theorem je_good : ∀ c, c < 128 → goodC c = true → InS joinEscapeCode 5 c false := inS_small (by kernel_rfl)
theorem joinEscape_miss {v : List Nat} (hv : ∀ c ∈ v, goodC c = true) : Come failed 20 (forSearch joinEscapeCode v.toArray 1 0 v.toArray.size false) := by
  have hne : ∀ i, i < v.toArray.size → InS joinEscapeCode 5 (v.toArray.getD i 0) false := fun i hi => by
    rw [getD_list]
    have hm := getD_mem (l := v) (i := i) (by simpa using hi)
    exact (je_good _ (lt_of_good (hv _ hm)) (hv _ hm))
  by_cases h2 : v.toArray.size < 1
  · have e : forSearch joinEscapeCode v.toArray 1 0 v.toArray.size false = { atStart joinEscapeCode v.toArray 1 0 with pc := 10, answer := some false } := by
      unfold forSearch
      have h1 : (decide (0 > v.toArray.size) || decide (v.toArray.size - 0 < (header joinEscapeCode).1)) = true := by
        have : (header joinEscapeCode).1 = 1 := rfl
        rw [this]; simp only [Bool.or_eq_true, decide_eq_true_eq]; omega
      dsimp only
      rw [if_pos h1]
      rfl
    rw [e]
    refine Come.le (b := 0 + 1) ?_ (by omega)
    exact pop_last rfl rfl rfl (Come.here rfl)
  · have e : ∃ sn, forSearch joinEscapeCode v.toArray 1 0 v.toArray.size false = { atStart joinEscapeCode v.toArray 1 v.toArray.size with pc := 10, answer := some false, seen := sn } := by
      unfold forSearch
      have h1 : ¬ (decide (0 > v.toArray.size) || decide (v.toArray.size - 0 < (header joinEscapeCode).1)) = true := by
        have : (header joinEscapeCode).1 = 1 := rfl
        rw [this]; simp only [Bool.or_eq_true, decide_eq_true_eq]; omega
      dsimp only
      rw [if_neg h1]
      obtain ⟨sn, ea⟩ := admitted_none (m := { atStart joinEscapeCode v.toArray 1 v.toArray.size with pc := 10 }) (v.toArray.size + 1 - 0) 0 (({} : Sre.Seen).add 14) hne
      refine ⟨sn, ?_⟩
      show M.attemptFrom { atStart joinEscapeCode v.toArray 1 v.toArray.size with pc := 10 } 0 true = _
      unfold M.attemptFrom
      have hfs : M.hasFirstSet { atStart joinEscapeCode v.toArray 1 v.toArray.size with pc := 10 } = true := rfl
      rw [hfs]
      simp only [Bool.not_true, Bool.false_eq_true, if_false]
      show (match M.admitted { atStart joinEscapeCode v.toArray 1 v.toArray.size with pc := 10 } (v.toArray.size + 1 - 0) 0 (({} : Sre.Seen).add 14) with | .ok (some s, seen) => _ | .ok (none, seen) => _ | .error why => _) = _
      rw [ea]
      rfl
    obtain ⟨sn, e⟩ := e
    rw [e]
    refine Come.le (b := 0 + 1) ?_ (by omega)
    exact pop_last rfl rfl rfl (Come.here rfl)
/-! a whole text of bare signs, or not -/
theorem jt_bare : ∀ c, c < 128 → bareC c = true → Acc joinTokenCode 9 c true := acc_small (by kernel_rfl)
theorem jt_not : ∀ c, c < 128 → (goodC c && !bareC c) = true → Acc joinTokenCode 9 c false := acc_small (by kernel_rfl)
def fullStart (t : Array Nat) : M := { atStart joinTokenCode t 0 0 with wholeText := true }
theorem full_start {t : Array Nat} (h : 1 ≤ t.size) : forMatch joinTokenCode t 0 0 t.size true false = fullStart t := by
  unfold forMatch
  have h1 : ¬ ((header joinTokenCode).1 != 0 && decide (0 ≤ t.size) && decide (t.size - 0 < (header joinTokenCode).1)) = true := by
    have : (header joinTokenCode).1 = 1 := rfl
    rw [this]; simp only [Bool.and_eq_true, decide_eq_true_eq]; omega
  dsimp only
  rw [if_neg h1]
  rfl
theorem full_hit {v : List Nat} (hv0 : v ≠ []) (hv : ∀ c ∈ v, bareC c = true) (hlen : v.length < 4294967295) :
    Come (Hit 0 v.length #[] (-1)) 20 (forMatch joinTokenCode v.toArray 0 0 v.toArray.size true false) := by
  have hv1 : 0 < v.length := List.length_pos_iff.mpr hv0
  have hsz : v.toArray.size = v.length := by simp
  rw [full_start (by omega)]
  refine go_run (least := 1) (r := v.length) rfl rfl rfl rfl rfl rfl (Nat.zero_le _) (by show v.toArray.size < _; omega) hv1 (by show 0 + v.length ≤ v.toArray.size; omega) ?_ (.inl ?_) rfl (Nat.le_of_ble_eq_true rfl) fun s1 => ?_
  · intro j hj
    show Acc joinTokenCode 9 (v.toArray.getD (0 + j) 0) true
    rw [getD_list, Nat.zero_add]
    exact (jt_bare _ (lt_of_good (good_of_bare (hv _ (getD_mem hj)))) (hv _ (getD_mem hj)))
  · show 0 + v.length = v.toArray.size; omega
  dsimp only [ran, backFrame, fullStart, atStart]
  refine go_success rfl rfl rfl (.inr ⟨fun _ => by show 0 + v.length = v.toArray.size; omega, rfl⟩) fun s2 => ?_
  dsimp only
  refine pop_yes rfl rfl rfl (.inl rfl) ?_
  dsimp only
  refine pop_last rfl rfl rfl (Come.here ⟨rfl, rfl, ?_, rfl, rfl⟩)
  show 0 + v.length = _; omega
/-- the run is given back sign by sign -/
theorem full_back : ∀ (k : Nat) (m : M), m.outcome = none → m.answer = some false → (∃ p lm li, m.frames = [{ wait := .giveBack, pc := 5, pos := p, outermost := true, count := ((k + 1 : Nat) : Int), kept := { lastmark := lm, lastindex := li, whole := false, marks := #[] } }] ∧ p < m.lim ∧ k + 1 ≤ p) → m.code = joinTokenCode → m.wholeText = true → 0 < m.weight → m.weight < 900 →
    Come failed (3 * k + 9) m := by
    intro k
    induction k with
    | zero =>
      intro m ho ha ⟨p, lm, li, hf, hp, hkp⟩ hc hwt hw0 hw
      refine Come.le (b := 0 + 1 + 1) ?_ (by omega)
      refine pop_back_no (least := 1) ho ha hf rfl rfl (by rw [hc]; rfl) (by show ((0 + 1 : Nat) : Int) - 1 < (1 : Nat); omega) ?_
      exact pop_last ho rfl rfl (Come.here rfl)
    | succ k ih =>
      intro m ho ha ⟨p, lm, li, hf, hp, hkp⟩ hc hwt hw0 hw
      refine Come.le (b := 3 * k + 9 + 1 + 1) ?_ (by omega)
      refine pop_back_again (least := 1) (skip := 16) ho ha hf rfl rfl rfl (by rw [hc]; rfl) (by rw [hc]; rfl) (by show ((1 : Nat) : Int) ≤ ((k + 1 + 1 : Nat) : Int) - 1; omega) (by omega) hw0 ?_
      refine go_success_no (by exact ho) rfl (by show m.code.getD 22 0 = 1; rw [hc]; rfl) rfl hwt (by show p - 1 ≠ m.lim; omega) fun sn => ?_
      refine ih _ ho rfl ⟨p - 1, lm, li, ?_, ?_, ?_⟩ hc hwt hw0 hw
      · show [_] = [_]
        have : ((k + 1 + 1 : Nat) : Int) - 1 = ((k + 1 : Nat) : Int) := by omega
        rw [this]
      · show p - 1 < m.lim; omega
      · omega
theorem full_miss {a r : List Nat} {c : Nat} (ha : ∀ c ∈ a, bareC c = true) (hc : goodC c = true) (hc' : bareC c = false) (hlen : (a ++ c :: r).length < 4294967295) :
    Come failed (3 * (a ++ c :: r).length + 20) (forMatch joinTokenCode (a ++ c :: r).toArray 0 0 (a ++ c :: r).toArray.size true false) := by
  have hsz : (a ++ c :: r).toArray.size = a.length + r.length + 1 := by simp; omega
  have hll : (a ++ c :: r).length = a.length + r.length + 1 := by simp; omega
  have ec : (a ++ c :: r).toArray.getD a.length 0 = c := by rw [getD_list, getD_r0]; rfl
  have hcc : Acc joinTokenCode 9 c false := (jt_not c (lt_of_good hc) (by rw [hc, hc']; rfl))
  rw [full_start (by omega)]
  cases a with
  | nil =>
    refine Come.le (b := 0 + 1 + 1) ?_ (by omega)
    refine go_run_no rfl rfl rfl rfl rfl (Nat.zero_le _) (by show ([] ++ c :: r).toArray.size < _; omega) (.inr ?_) fun s1 => ?_
    · show Acc joinTokenCode 9 (([] ++ c :: r).toArray.getD 0 0) false
      exact hcc
    · exact pop_last rfl rfl rfl (Come.here rfl)
  | cons x a =>
    refine Come.le (b := 3 * a.length + 9 + 1 + 1) ?_ (by rw [hll, List.length_cons]; omega)
    refine go_run (least := 1) (r := (x :: a).length) rfl rfl rfl rfl rfl rfl (Nat.zero_le _) (by show (x :: a ++ c :: r).toArray.size < _; omega) (by simp) (by show 0 + (x :: a).length ≤ (x :: a ++ c :: r).toArray.size; omega) ?_ (.inr ?_) rfl (Nat.le_of_ble_eq_true rfl) fun s1 => ?_
    · intro j hj
      show Acc joinTokenCode 9 ((x :: a ++ c :: r).toArray.getD (0 + j) 0) true
      rw [getD_list, Nat.zero_add, getD_l hj]
      exact (jt_bare _ (lt_of_good (good_of_bare (ha _ (getD_mem hj)))) (ha _ (getD_mem hj)))
    · show Acc joinTokenCode 9 ((x :: a ++ c :: r).toArray.getD (0 + (x :: a).length) 0) false
      rw [Nat.zero_add, ec]; exact hcc
    dsimp only [ran, backFrame, fullStart, atStart]
    refine go_success_no rfl rfl rfl rfl rfl (by show 0 + (x :: a).length ≠ (x :: a ++ c :: r).toArray.size; omega) fun s2 => ?_
    dsimp only
    refine full_back a.length _ rfl rfl ⟨_, _, _, rfl, ?_, ?_⟩ rfl rfl (by show 0 < 0 + 1; omega) (by show 0 + 1 < 900; omega)
    · show 0 + (x :: a).length < (x :: a ++ c :: r).toArray.size; omega
    · show a.length + 1 ≤ 0 + (x :: a).length; simp
/-! what stands between the pairs -/
theorem tw_junk : ∀ c, c < 128 → (c == 59 || c == 32) = true → Acc twinCode 11 c true := acc_small (by kernel_rfl)
theorem tw_let : ∀ c, c < 128 → letC c = true → Acc twinCode 11 c false := acc_small (by kernel_rfl)
theorem twin_start {t : Array Nat} {s : Nat} (h : s ≤ t.size) : forSearch twinCode t 0 s t.size false = tried { atStart twinCode t 0 t.size with start := s, pos := s, handed := s } s true := by
  unfold forSearch
  have h1 : ¬ (decide (s > t.size) || decide (t.size - s < (header twinCode).1)) = true := by
    have : (header twinCode).1 = 0 := rfl
    rw [this]; simp only [Bool.or_eq_true, decide_eq_true_eq]; omega
  dsimp only
  rw [if_neg h1]
  exact (attemptFrom_eq rfl (Nat.le_of_ble_eq_true rfl)).trans rfl
theorem twin_hit {c : Nat} {r : List Nat} (hc : letC c = true) (hlen : (59 :: 32 :: c :: r).length < 4294967295) :
    Come (Hit 0 2 #[] (-1)) 20 (forSearch twinCode (59 :: 32 :: c :: r).toArray 0 0 (59 :: 32 :: c :: r).toArray.size false) := by
  have hsz : (59 :: 32 :: c :: r).toArray.size = r.length + 3 := by simp
  have hl : (59 :: 32 :: c :: r).toArray.size < 4294967295 := by simpa using hlen
  rw [twin_start (Nat.zero_le _)]
  refine go_at rfl rfl rfl rfl rfl fun s1 => ?_
  dsimp only [tried, atStart]
  refine go_run (least := 0) (r := 2) rfl rfl rfl rfl rfl rfl (Nat.zero_le _) hl (Nat.zero_le _) (by show 0 + 2 ≤ (59 :: 32 :: c :: r).toArray.size; omega) ?_ (.inr ?_) rfl (Nat.le_of_ble_eq_true rfl) fun s2 => ?_
  · intro j hj
    show Acc twinCode 11 ((59 :: 32 :: c :: r).toArray.getD (0 + j) 0) true
    rw [Nat.zero_add]
    have : j = 0 ∨ j = 1 := by omega
    rcases this with rfl | rfl
    · exact (tw_junk 59 (by decide) (by decide))
    · exact (tw_junk 32 (by decide) (by decide))
  · show Acc twinCode 11 c false
    exact (tw_let c (lt_of_good (good_of_bare (bare_of_let hc))) hc)
  dsimp only [ran, backFrame]
  refine go_success rfl rfl rfl (.inr ⟨fun h => (nomatch h), rfl⟩) fun s12 => ?_
  dsimp only
  refine pop_yes rfl rfl rfl (.inl rfl) ?_
  dsimp only
  refine pop_yes rfl rfl rfl (.inr rfl) ?_
  dsimp only
  exact pop_last rfl rfl rfl (Come.here ⟨rfl, rfl, rfl, rfl, rfl⟩)
theorem twin_miss {t : Array Nat} {s : Nat} (h1 : 1 ≤ s) (h : s ≤ t.size) : Come failed (3 * t.size + 9) (forSearch twinCode t 0 s t.size false) := by
  rw [twin_start h]
  refine (anchor_fails t.size _ s true rfl rfl rfl rfl rfl (Nat.le_of_ble_eq_true rfl) rfl h1 (by show t.size ≤ _; omega)).le (by omega)
end Mine
end
section
open PySem PySem.W PyProof.Rows
set_option maxRecDepth 100000
set_option maxHeartbeats 0
namespace Mine
abbrev prog : Program := PySem.Challenge.rw_qh0025_01.row.prog
def On (_ : OpenLaw) (_ : Params → Frag) (P : Prop) : Prop := P
/-- all that stood still stands -/
abbrev Kp (h h' : Heap) : Prop := ∀ b o, h.get? b = some o → h'.get? b = some o
theorem skip_if {c : Prop} [Decidable c] {a b : Prop} (h : ¬ c) (k : b) : if c then a else b := by w_top off; rw [if_neg h]; exact k
/-- what is to hold behind a statement: the rest of the block, or the block's own end -/
def Then (M : Model) (A : Around) (rest : List Stmt) (env : Env) (Q : Flow → Shared → Prop) (E : Value → Shared → Prop) (f : Flow) (s : Shared) : Prop := match f with
  | .next => wpAny M A (execs rest env) Q E s
  | f => Q f s
theorem execs_then {M : Model} {A : Around} {st : Stmt} {rest : List Stmt} {env : Env} {Q : Flow → Shared → Prop} {E : Value → Shared → Prop} {s : Shared} (h : let q := Then M A rest env Q E; wpAny M A (exec st env) q E s) :
    wpAny M A (execs (st :: rest) env) Q E s := wpAny_execs_cons (wpAny_mono h (fun f _ x => by cases f <;> exact x) fun _ _ x => x)
theorem then_next {M : Model} {A : Around} {rest : List Stmt} {env : Env} {Q : Flow → Shared → Prop} {E : Value → Shared → Prop} {s : Shared} (h : wpAny M A (execs rest env) Q E s) : Then M A rest env Q E .next s := h
theorem then_over {M : Model} {A : Around} {env : Env} {Q : Flow → Shared → Prop} {E : Value → Shared → Prop} {s : Shared} (h : Q .next s) : Then M A [] env Q E .next s := wpAny_execs_nil h
theorem then_ret {M : Model} {A : Around} {rest : List Stmt} {env : Env} {Q : Flow → Shared → Prop} {E : Value → Shared → Prop} {v : Value} {s : Shared} (h : Q (.ret v) s) : Then M A rest env Q E (.ret v) s := h
theorem then_brk {M : Model} {A : Around} {rest : List Stmt} {env : Env} {Q : Flow → Shared → Prop} {E : Value → Shared → Prop} {s : Shared} (h : Q .brk s) : Then M A rest env Q E .brk s := h
theorem then_cont {M : Model} {A : Around} {rest : List Stmt} {env : Env} {Q : Flow → Shared → Prop} {E : Value → Shared → Prop} {s : Shared} (h : Q .cont s) : Then M A rest env Q E .cont s := h
def Back (Q : Value → Shared → Prop) (v : Value) (s' : Shared) : Prop := Q v s'
theorem kpOf {h g h' : Heap} {L : Addr} {m : Str → Option Value} (hk : Kp h g) (F : Fr g L h' m) : Kp h h' := fun b o e => F.keep b o (hk b o e)
theorem frKp {g h h' : Heap} {L : Addr} {m : Str → Option Value} (F : Fr g L h m) (k : Kp h h') : Fr g L h' m := ⟨F.ns.keeps k, fun b o e => k b o (F.keep b o e), F.above⟩
theorem newsKp {g h h' : Heap} {L : Addr} {news : List (Addr × Obj)} (N : News g L h news) (k : Kp h h') : News g L h' news := fun p hp => ⟨k _ _ (N p hp).1, (N p hp).2⟩
/-- what a call asks of where it stands -/
structure Ready (K : Frag) (p : Program) (loose : List Str) (mean : ExcName → Option Value) (mg mb : Str → Option Value) (A : Around) (n : Nat) (h : Heap) : Prop where
  X : K.In h
  T : Top p loose mean mg mb h
  dep : A.depth + n < recursionLimit
  un : A.units + 100 * n < cLine
  hh : A.handled = none
section
variable {w : World} {A : Around} {E : Value → Shared → Prop} {s : Shared} {K : Frag} {p : Program} {loose : List Str} {mean : ExcName → Option Value} {mg mb : Str → Option Value} {Q : Value → Shared → Prop}
theorem Ready.deep {n : Nat} {h h' : Heap} {env : Env} (R : Ready K p loose mean mg mb A (n + 1) h) (k : Kp h h') : Ready K p loose mean mg mb (A.deeper env) n h' :=
  ⟨R.X.keeps k, R.T.keeps k, by have := R.dep; show A.depth + 1 + n < _; omega, by have := R.un; show A.units + 3 + _ < _; omega, R.hh⟩
theorem Ready.less {n k : Nat} {h : Heap} (R : Ready K p loose mean mg mb A n h) (hk : k ≤ n) : Ready K p loose mean mg mb A k h :=
  ⟨R.X, R.T, by have := R.dep; omega, by have := R.un; omega, R.hh⟩
theorem enter {n : Nat} {kw : List (Str × Value)} {name qual : Str} {params : Arguments} {body : List Stmt} {scope : Scope} {dV kV doc pm cdv ct oc : Value} {an od : Option Addr} {osl : Array (Option Value)} {f : Addr} {args : List Value} {binds : List (Str × Value)}
    (R : Ready K p loose mean mg mb A (n + 1) s.heap)
    (ho : K.lookup f = some ⟨oc, od, .func (fnOf name qual params body scope dV kV doc pm an cdv ct), osl⟩) (hcd : codeIn K cdv qual = true)
    (hbind : BindsTo s (fnOf name qual params body scope dV kV doc pm an cdv ct) ⟨args, kw⟩ binds) (hloc : ∀ y ∈ binds, scope.names.lookup y.1 = some .local)
    (h : ∀ dp fr gd un L' h₁, dp + n < recursionLimit → un + 100 * n < cLine → (∀ h', Kp s.heap h' → Ready K p loose mean mg mb ⟨none, dp, fr, gd, un⟩ n h') →
      Fr s.heap L' h₁ (fun y => binds.reverse.lookup y) → News s.heap L' h₁ [] → K.In s.heap → Top p loose mean mg mb s.heap →
      wpAny (model prog w) ⟨none, dp, fr, gd, un⟩ (execs body (envOf qual scope L' f cdv))
        (fun fl s' => Back Q (match fl with | .ret v => v | _ => .none) s') (fun _ _ => False)
        { s with heap := h₁, toks := s.toks + binds.length })
    (hco : scope.isCoroutine = false) (hgen : scope.isGenerator = false) (hk : scope.kind = .function)
    (hcell : ∀ x ∈ scope.names, x.2 ≠ .cell) : wpAny (model prog w) A (call (.ref f) args kw) Q E s := by
  refine wpAny_call ?_
  obtain ⟨ha, dp, fr, gd, un⟩ := A
  obtain rfl : ha = none := R.hh
  refine codeAny_call_def (fd := fnOf name qual params body scope dV kV doc pm an cdv ct) (body := body) (binds := binds) (by have := R.dep; omega) (R.X _ _ ho) rfl R.T.nolimit (codeRec_of R.X hcd) rfl hbind hcell hloc (fun h₁ hns hk₁ => ?_) hco hgen hk
  exact wpAny_mono (h _ _ _ _ s.heap.objs.size h₁ (by have := R.dep; show dp + 1 + n < _; simp only at this; omega) (by have := R.un; show un + 3 + 100 * n < _; simp only at this; omega) (fun h' k => R.deep k) ⟨hns, hk₁, Nat.le_refl _⟩ News.nil R.X R.T) (fun fl s' hl => hl) fun _ _ y => y.elim
end
end Mine
end
namespace Mine
end Mine
set_option hygiene false
local macro_rules | `(tactic| walk_at "execs cons") => `(tactic| (k_here; (try dsimp only); (try k_gentoks); (with_reducible refine Mine.execs_then ?_); intro qk))
local macro_rules | `(tactic| walk_at "Then") => `(tactic| (first | (with_reducible refine Mine.then_over ?_) | (with_reducible refine Mine.then_next ?_) | (with_reducible refine Mine.then_ret ?_) | (with_reducible refine Mine.then_brk ?_) | (with_reducible refine Mine.then_cont ?_)))
set_option hygiene true
section
open PySem PySem.W PyProof.Rows
set_option maxRecDepth 100000
set_option linter.unusedSimpArgs false
set_option linter.unusedVariables false
namespace Mine
theorem plainAttrs_re_Pattern : PlainAttrs "re.Pattern" :=
  ⟨⟨"object.__getattribute__", by rw [typeLookup_type, builtinLookup_eq_fast]; kernel_rfl, by decide +kernel⟩, by rw [typeLookup_type, builtinLookup_eq_fast]; kernel_rfl⟩
theorem owner_re_Pattern : Manifest.owners.lookup (String.ofList ['n', 'r', 'e', 't', 't', 'a', 'P', '.', 'e', 'r'].reverse) = some Manifest.sig_re_Pattern := by kernel_rfl
theorem plainAttrs_re_Match : PlainAttrs "re.Match" :=
  ⟨⟨"object.__getattribute__", by rw [typeLookup_type, builtinLookup_eq_fast]; kernel_rfl, by decide +kernel⟩, by rw [typeLookup_type, builtinLookup_eq_fast]; kernel_rfl⟩
theorem owner_re_Match : Manifest.owners.lookup (String.ofList ['h', 'c', 't', 'a', 'M', '.', 'e', 'r'].reverse) = some Manifest.sig_re_Match := by kernel_rfl
theorem slot_re_Pattern_search : Slot "re.Pattern" "search" "re.Pattern.search" :=
  .of (owner := "re.Pattern") (n := "search") (by rw [typeLookup_type, builtinLookup_eq_fast]; kernel_rfl) (by decide +kernel) (by decide +kernel) (by decide +kernel)
    (by first | exact .inl (by decide +kernel) | exact .inr (by decide +kernel)) (by rw [isSubtype_type]; kernel_rfl)
theorem type_re_Pattern_search : typeOf (.builtin "re.Pattern.search") = pure (.type "method_descriptor") := by show builtinType _ = _; rw [builtinType_eq_fast]; kernel_rfl
theorem entry_re_Pattern_search : entryFor table "re.Pattern.search" = some Builtin.«re.Pattern.search» := entryFor_of_tree (by kernel_rfl)
theorem args_re_Pattern_search_2 (a b : Value) : argsOk "re.Pattern.search" ⟨[a, b], []⟩ := by
  unfold argsOk; rw [signature?_of (id := "re.Pattern.search") (n := ['h', 'c', 'r', 'a', 'e', 's']) (o := ['n', 'r', 'e', 't', 't', 'a', 'P', '.', 'e', 'r']) (by kernel_rfl) owner_re_Pattern]; kernel_rfl
theorem slot_re_Pattern_fullmatch : Slot "re.Pattern" "fullmatch" "re.Pattern.fullmatch" :=
  .of (owner := "re.Pattern") (n := "fullmatch") (by rw [typeLookup_type, builtinLookup_eq_fast]; kernel_rfl) (by decide +kernel) (by decide +kernel) (by decide +kernel)
    (by first | exact .inl (by decide +kernel) | exact .inr (by decide +kernel)) (by rw [isSubtype_type]; kernel_rfl)
theorem type_re_Pattern_fullmatch : typeOf (.builtin "re.Pattern.fullmatch") = pure (.type "method_descriptor") := by show builtinType _ = _; rw [builtinType_eq_fast]; kernel_rfl
theorem entry_re_Pattern_fullmatch : entryFor table "re.Pattern.fullmatch" = some Builtin.«re.Pattern.fullmatch» := entryFor_of_tree (by kernel_rfl)
theorem args_re_Pattern_fullmatch_2 (a b : Value) : argsOk "re.Pattern.fullmatch" ⟨[a, b], []⟩ := by
  unfold argsOk; rw [signature?_of (id := "re.Pattern.fullmatch") (n := ['h', 'c', 't', 'a', 'm', 'l', 'l', 'u', 'f']) (o := ['n', 'r', 'e', 't', 't', 'a', 'P', '.', 'e', 'r']) (by kernel_rfl) owner_re_Pattern]; kernel_rfl
theorem slot_re_Pattern_sub : Slot "re.Pattern" "sub" "re.Pattern.sub" :=
  .of (owner := "re.Pattern") (n := "sub") (by rw [typeLookup_type, builtinLookup_eq_fast]; kernel_rfl) (by decide +kernel) (by decide +kernel) (by decide +kernel)
    (by first | exact .inl (by decide +kernel) | exact .inr (by decide +kernel)) (by rw [isSubtype_type]; kernel_rfl)
theorem type_re_Pattern_sub : typeOf (.builtin "re.Pattern.sub") = pure (.type "method_descriptor") := by show builtinType _ = _; rw [builtinType_eq_fast]; kernel_rfl
theorem entry_re_Pattern_sub : entryFor table "re.Pattern.sub" = some Builtin.«re.Pattern.sub» := entryFor_of_tree (by kernel_rfl)
theorem args_re_Pattern_sub_3 (a b c : Value) : argsOk "re.Pattern.sub" ⟨[a, b, c], []⟩ := by
  unfold argsOk; rw [signature?_of (id := "re.Pattern.sub") (n := ['b', 'u', 's']) (o := ['n', 'r', 'e', 't', 't', 'a', 'P', '.', 'e', 'r']) (by kernel_rfl) owner_re_Pattern]; kernel_rfl
theorem slot_re_Pattern_subn : Slot "re.Pattern" "subn" "re.Pattern.subn" :=
  .of (owner := "re.Pattern") (n := "subn") (by rw [typeLookup_type, builtinLookup_eq_fast]; kernel_rfl) (by decide +kernel) (by decide +kernel) (by decide +kernel)
    (by first | exact .inl (by decide +kernel) | exact .inr (by decide +kernel)) (by rw [isSubtype_type]; kernel_rfl)
theorem type_re_Pattern_subn : typeOf (.builtin "re.Pattern.subn") = pure (.type "method_descriptor") := by show builtinType _ = _; rw [builtinType_eq_fast]; kernel_rfl
theorem entry_re_Pattern_subn : entryFor table "re.Pattern.subn" = some Builtin.«re.Pattern.subn» := entryFor_of_tree (by kernel_rfl)
theorem args_re_Pattern_subn_3 (a b c : Value) : argsOk "re.Pattern.subn" ⟨[a, b, c], []⟩ := by
  unfold argsOk; rw [signature?_of (id := "re.Pattern.subn") (n := ['n', 'b', 'u', 's']) (o := ['n', 'r', 'e', 't', 't', 'a', 'P', '.', 'e', 'r']) (by kernel_rfl) owner_re_Pattern]; kernel_rfl
theorem slot_re_Match_group : Slot "re.Match" "group" "re.Match.group" :=
  .of (owner := "re.Match") (n := "group") (by rw [typeLookup_type, builtinLookup_eq_fast]; kernel_rfl) (by decide +kernel) (by decide +kernel) (by decide +kernel)
    (by first | exact .inl (by decide +kernel) | exact .inr (by decide +kernel)) (by rw [isSubtype_type]; kernel_rfl)
theorem type_re_Match_group : typeOf (.builtin "re.Match.group") = pure (.type "method_descriptor") := by show builtinType _ = _; rw [builtinType_eq_fast]; kernel_rfl
theorem entry_re_Match_group : entryFor table "re.Match.group" = some Builtin.«re.Match.group» := entryFor_of_tree (by kernel_rfl)
theorem args_re_Match_group_2 (a b : Value) : argsOk "re.Match.group" ⟨[a, b], []⟩ := by
  unfold argsOk; rw [signature?_of (id := "re.Match.group") (n := ['p', 'u', 'o', 'r', 'g']) (o := ['h', 'c', 't', 'a', 'M', '.', 'e', 'r']) (by kernel_rfl) owner_re_Match]; kernel_rfl
theorem slot_re_Match_span : Slot "re.Match" "span" "re.Match.span" :=
  .of (owner := "re.Match") (n := "span") (by rw [typeLookup_type, builtinLookup_eq_fast]; kernel_rfl) (by decide +kernel) (by decide +kernel) (by decide +kernel)
    (by first | exact .inl (by decide +kernel) | exact .inr (by decide +kernel)) (by rw [isSubtype_type]; kernel_rfl)
theorem type_re_Match_span : typeOf (.builtin "re.Match.span") = pure (.type "method_descriptor") := by show builtinType _ = _; rw [builtinType_eq_fast]; kernel_rfl
theorem entry_re_Match_span : entryFor table "re.Match.span" = some Builtin.«re.Match.span» := entryFor_of_tree (by kernel_rfl)
theorem args_re_Match_span_2 (a b : Value) : argsOk "re.Match.span" ⟨[a, b], []⟩ := by
  unfold argsOk; rw [signature?_of (id := "re.Match.span") (n := ['n', 'a', 'p', 's']) (o := ['h', 'c', 't', 'a', 'M', '.', 'e', 'r']) (by kernel_rfl) owner_re_Match]; kernel_rfl
end Mine
end
section
open PySem PySem.W PyProof.Rows
set_option maxRecDepth 100000
set_option linter.unusedSimpArgs false
set_option linter.unusedVariables false
namespace Mine
open PySem.Builtin.Re
def Pat (h : Heap) (P : Addr) (code : Array Nat) (g : Nat) : Prop :=
  ∃ pt fl c t1 t2 vs n, h.get? P = some { cls := .type "re.Pattern", data := .fields #[pt, fl, .int g t1, .none, .none, .ref c, .int 0 t2] } ∧ h.get? c = some { cls := .type "tuple", data := .seq vs n } ∧ (vs.map reRawOf).map (·.toNat) = code
theorem Pat.keeps {h h' : Heap} {P : Addr} {code : Array Nat} {g : Nat} (p : Pat h P code g) (k : Kp h h') : Pat h' P code g :=
  let ⟨pt, fl, c, t1, t2, vs, n, a, b, r⟩ := p; ⟨pt, fl, c, t1, t2, vs, n, k _ _ a, k _ _ b, r⟩
section
variable {M : Model} {A : Around} {E : Value → Shared → Prop} {s : Shared}
theorem target_ok {id f : String} {P : Addr} {code : Array Nat} {g : Nat} {x : Str} {t : Tok} {Q : ReTarget → Shared → Prop} (hp : Pat s.heap P code g) (hx : x.cps.size < 2 ^ 60)
    (h : Q { pattern := .ref P, string := .str x t, code := code, text := x.cps, kind := 0, groups := g, pos := 0, lim := x.cps.size } s) :
    wpAny M A (reTarget id f ⟨[.ref P, .str x t], []⟩) Q E s := by
  obtain ⟨pt, fl, c, t1, t2, vs, n, ho, hc, e⟩ := hp
  have hnm : reNamed id f ["string", "pos", "endpos"] 1 [.str x t] [] = pure [some (.str x t), none, none] := rfl
  unfold reTarget
  simp only [hnm, pure_bind]
  refine wpAny_bind (wpAny_fieldsOf ho rfl ?_)
  have ht : reTextOf (.str x t) = pure (x.cps, 0) := rfl
  simp only [ht, pure_bind]
  have hr : reNoCollectionInside (.str x t) 0 = pure () := rfl
  have h6 : (#[pt, fl, Value.int (g : Int) t1, Value.none, Value.none, Value.ref c, Value.int 0 t2] : Array Value).getD 6 Value.none = Value.int 0 t2 := rfl
  have h5 : (#[pt, fl, Value.int (g : Int) t1, Value.none, Value.none, Value.ref c, Value.int 0 t2] : Array Value).getD 5 Value.none = Value.ref c := rfl
  have h2 : (#[pt, fl, Value.int (g : Int) t1, Value.none, Value.none, Value.ref c, Value.int 0 t2] : Array Value).getD 2 Value.none = Value.int g t1 := rfl
  simp only [h6, h5, h2, hr, reRawNat, pure_bind]
  rw [if_neg (by decide), if_neg (by decide)]
  refine wpAny_bind (wpAny_bind (wpAny_seqItems hc rfl (wpAny_pure (wpAny_pure ?_))))
  have hl : min (2 ^ 63 - 1 : Int).toNat x.cps.size = x.cps.size := by
    have : (2 ^ 63 - 1 : Int).toNat = 9223372036854775807 := rfl
    rw [this]; omega
  have hg : (g : Int).toNat = g := rfl
  have h0 : min (Int.toNat 0) x.cps.size = 0 := by show min 0 _ = 0; omega
  rw [hl, h0, hg]
  show Q { pattern := .ref P, string := .str x t, code := (vs.map reRawOf).map (·.toNat), text := x.cps, kind := 0, groups := g, pos := 0, lim := x.cps.size } s
  rw [e]
  exact h
end
end Mine
end
section
open PySem PySem.W PyProof.Rows
set_option maxRecDepth 100000
set_option linter.unusedSimpArgs false
set_option linter.unusedVariables false
namespace Mine
open PySem.Builtin.Re
def matchObj (P : Addr) (x : Str) (t : Tok) (lim : Nat) (li : Int) (tp : Addr) : Obj := { cls := .type "re.Match", data := .fields #[.str x t, .ref P, .int 0 0, .int lim 0, .int li 0, .ref tp] }
def spanObj (l : List Int) : Obj := { cls := .type "tuple", data := .seq (l.map rawInt).toArray }
section
variable {M : Model} {A : Around} {E : Value → Shared → Prop} {s : Shared} {g₀ : Heap} {L : Addr} {m : Str → Option Value} {news : List (Addr × Obj)}
theorem newMatch1 {P : Addr} {x : Str} {t : Tok} {lim st hd b e : Nat} {mm : Sre.M} {Q : Value → Shared → Prop} (F : Fr g₀ L s.heap m) (N : News g₀ L s.heap news) (hm : Hit st hd #[some b, some e] 1 mm) (hbe : b ≤ e)
    (h : ∀ a c h' li, Fr g₀ L h' m → News g₀ L h' ((a, matchObj P x t lim li c) :: (c, spanObj [st, hd, b, e]) :: news) → (∀ p ∈ news, p.1 < c) → c < a → Q (.ref a) { s with heap := h' }) :
    wpAny M A (reNewMatch (.ref P) (.str x t) 1 0 lim mm) Q E s := by
  obtain ⟨_, hst, hhd, hmk, hlm⟩ := hm
  unfold reNewMatch
  have h1 : (List.range 1) = [0] := rfl
  have e0 : mm.marks.getD (2 * 0) none = some b := by rw [hmk]; rfl
  have e1 : mm.marks.getD (2 * 0 + 1) none = some e := by rw [hmk]; rfl
  have hbe' : ¬ e < b := by omega
  simp only [h1, List.flatMap_cons, List.flatMap_nil, List.any_cons, List.any_nil, e0, e1, hlm, hst, hhd, hbe', decide_false, Bool.and_false, Bool.or_false, Bool.false_eq_true, if_false]
  rw [if_pos (by decide)]
  refine wpAny_bind (wpAny_newTuple ?_ (by simp [sizeLine]))
  refine wpAny_newObj_type ?_ (by size_fits)
  refine h _ s.heap.objs.size _ mm.lastindex ((F.push _).push _) ?_ (fun p hp => Heap.lt_size (N p hp).1) ?_
  · have n1 := N.push F (spanObj [st, hd, b, e])
    exact n1.push (F.push _) _
  · show s.heap.objs.size < (s.heap.push _).objs.size
    rw [Heap.size_push]; omega
theorem newMatch0 {P : Addr} {x : Str} {t : Tok} {lim st hd : Nat} {mm : Sre.M} {Q : Value → Shared → Prop} (F : Fr g₀ L s.heap m) (N : News g₀ L s.heap news) (hm : Hit st hd #[] (-1) mm)
    (h : ∀ a c h' li, Fr g₀ L h' m → News g₀ L h' ((a, matchObj P x t lim li c) :: (c, spanObj [st, hd]) :: news) → (∀ p ∈ news, p.1 < c) → c < a → Q (.ref a) { s with heap := h' }) :
    wpAny M A (reNewMatch (.ref P) (.str x t) 0 0 lim mm) Q E s := by
  obtain ⟨_, hst, hhd, hmk, hlm⟩ := hm
  unfold reNewMatch
  have h1 : (List.range 0) = [] := rfl
  simp only [h1, List.flatMap_nil, List.any_nil, hst, hhd, Bool.false_eq_true, if_false]
  refine wpAny_bind (wpAny_newTuple ?_ (by simp [sizeLine]))
  refine wpAny_newObj_type ?_ (by size_fits)
  refine h _ s.heap.objs.size _ mm.lastindex ((F.push _).push _) ?_ (fun p hp => Heap.lt_size (N p hp).1) ?_
  · have n1 := N.push F (spanObj [st, hd])
    exact n1.push (F.push _) _
  · show s.heap.objs.size < (s.heap.push _).objs.size
    rw [Heap.size_push]; omega
end
section
variable {prog : Program} {w : World} {A : Around} {E : Value → Shared → Prop} {s : Shared} {g₀ : Heap} {L : Addr} {m : Str → Option Value} {news : List (Addr × Obj)} {Q : Value → Shared → Prop}
theorem patMethod {P : Addr} {code : Array Nat} {g : Nat} {name : Str} {id : String} {pl : Sem Bool} {Q : Value × List Value → Shared → Prop} (p : Pat s.heap P code g) (slot : Slot "re.Pattern" name id) (hty : typeOf (.builtin id) = pure (.type "method_descriptor"))
    (h : Q (.builtin id, [.ref P]) s) : wpAny (model prog w) A (getMethod (.ref P) name pl) Q E s := by
  obtain ⟨pt, fl, c, t1, t2, vs, n, ho, hc, e⟩ := p
  exact getMethod_builtin ⟨_, ho, rfl⟩ plainAttrs_re_Pattern slot hty (fun a e => by cases e; exact ⟨_, ho, rfl⟩) h
theorem matchMethod {a P tp : Addr} {x : Str} {t : Tok} {lim : Nat} {li : Int} {name : Str} {id : String} {pl : Sem Bool} {Q : Value × List Value → Shared → Prop} (ho : s.heap.get? a = some (matchObj P x t lim li tp)) (slot : Slot "re.Match" name id) (hty : typeOf (.builtin id) = pure (.type "method_descriptor"))
    (h : Q (.builtin id, [.ref a]) s) : wpAny (model prog w) A (getMethod (.ref a) name pl) Q E s :=
  getMethod_builtin ⟨_, ho, rfl⟩ plainAttrs_re_Match slot hty (fun b e => by cases e; exact ⟨_, ho, rfl⟩) h
theorem search_hit {P : Addr} {code : Array Nat} {x : Str} {t : Tok} {st hd b e n : Nat} (F : Fr g₀ L s.heap m) (N : News g₀ L s.heap news) (p : Pat s.heap P code 1) (hx : x.cps.size < 2 ^ 24)
    (hc : Come (Hit st hd #[some b, some e] 1) n (Sre.forSearch code x.cps 1 0 x.cps.size false)) (hn : n ≤ 2 ^ 60) (hbe : b ≤ e)
    (h : ∀ a c h' li, Fr g₀ L h' m → News g₀ L h' ((a, matchObj P x t x.cps.size li c) :: (c, spanObj [st, hd, b, e]) :: news) → (∀ p ∈ news, p.1 < c) → c < a → Q (.ref a) { s with heap := h' }) :
    wpAny (model prog w) A (call (.builtin "re.Pattern.search") [.ref P, .str x t]) Q E s := by
  have p' := p
  obtain ⟨pt, fl, c, t1, t2, vs, n', ho, hcc, e'⟩ := p
  refine wpAny_call_entry slot_re_Pattern_search ⟨_, ho, rfl⟩ entry_re_Pattern_search ?_ (args_re_Pattern_search_2 _ _)
  unfold Builtin.«re.Pattern.search»
  refine wpAny_bind (target_ok p' (by omega) ?_)
  unfold reAnswer
  obtain ⟨k, hk, hh⟩ := hc
  refine wpAny_bind (runToEnd (e := stepN k _) (n := k) rfl (by omega) (.inl ⟨hh.1, ?_⟩))
  refine wpAny_bind (newMatch1 F N hh hbe fun a c h' li F' N' l1 l2 => ?_)
  exact wpAny_pure ⟨_, rfl, h a c h' li F' N' l1 l2⟩
theorem search_miss {P : Addr} {code : Array Nat} {x : Str} {t : Tok} {g n : Nat} (p : Pat s.heap P code g) (hx : x.cps.size < 2 ^ 24)
    (hc : Come failed n (Sre.forSearch code x.cps g 0 x.cps.size false)) (hn : n ≤ 2 ^ 60) (h : Q .none s) :
    wpAny (model prog w) A (call (.builtin "re.Pattern.search") [.ref P, .str x t]) Q E s := by
  have p' := p
  obtain ⟨pt, fl, c, t1, t2, vs, n', ho, hcc, e'⟩ := p
  refine wpAny_call_entry slot_re_Pattern_search ⟨_, ho, rfl⟩ entry_re_Pattern_search ?_ (args_re_Pattern_search_2 _ _)
  unfold Builtin.«re.Pattern.search»
  refine wpAny_bind (target_ok p' (by omega) ?_)
  unfold reAnswer
  obtain ⟨k, hk, hh⟩ := hc
  refine wpAny_bind (runToEnd (e := stepN k _) (n := k) rfl (by omega) (.inr ⟨hh, ?_⟩))
  exact wpAny_pure ⟨_, rfl, h⟩
theorem full_hitK {P : Addr} {code : Array Nat} {x : Str} {t : Tok} {st hd n : Nat} (F : Fr g₀ L s.heap m) (N : News g₀ L s.heap news) (p : Pat s.heap P code 0) (hx : x.cps.size < 2 ^ 24)
    (hc : Come (Hit st hd #[] (-1)) n (Sre.forMatch code x.cps 0 0 x.cps.size true false)) (hn : n ≤ 2 ^ 60)
    (h : ∀ a c h' li, Fr g₀ L h' m → News g₀ L h' ((a, matchObj P x t x.cps.size li c) :: (c, spanObj [st, hd]) :: news) → (∀ p ∈ news, p.1 < c) → c < a → Q (.ref a) { s with heap := h' }) :
    wpAny (model prog w) A (call (.builtin "re.Pattern.fullmatch") [.ref P, .str x t]) Q E s := by
  have p' := p
  obtain ⟨pt, fl, c, t1, t2, vs, n', ho, hcc, e'⟩ := p
  refine wpAny_call_entry slot_re_Pattern_fullmatch ⟨_, ho, rfl⟩ entry_re_Pattern_fullmatch ?_ (args_re_Pattern_fullmatch_2 _ _)
  unfold Builtin.«re.Pattern.fullmatch»
  refine wpAny_bind (target_ok p' (by omega) ?_)
  unfold reAnswer
  obtain ⟨k, hk, hh⟩ := hc
  refine wpAny_bind (runToEnd (e := stepN k _) (n := k) rfl (by omega) (.inl ⟨hh.1, ?_⟩))
  refine wpAny_bind (newMatch0 F N hh fun a c h' li F' N' l1 l2 => ?_)
  exact wpAny_pure ⟨_, rfl, h a c h' li F' N' l1 l2⟩
theorem full_missK {P : Addr} {code : Array Nat} {x : Str} {t : Tok} {g n : Nat} (p : Pat s.heap P code g) (hx : x.cps.size < 2 ^ 24)
    (hc : Come failed n (Sre.forMatch code x.cps g 0 x.cps.size true false)) (hn : n ≤ 2 ^ 60) (h : Q .none s) :
    wpAny (model prog w) A (call (.builtin "re.Pattern.fullmatch") [.ref P, .str x t]) Q E s := by
  have p' := p
  obtain ⟨pt, fl, c, t1, t2, vs, n', ho, hcc, e'⟩ := p
  refine wpAny_call_entry slot_re_Pattern_fullmatch ⟨_, ho, rfl⟩ entry_re_Pattern_fullmatch ?_ (args_re_Pattern_fullmatch_2 _ _)
  unfold Builtin.«re.Pattern.fullmatch»
  refine wpAny_bind (target_ok p' (by omega) ?_)
  unfold reAnswer
  obtain ⟨k, hk, hh⟩ := hc
  refine wpAny_bind (runToEnd (e := stepN k _) (n := k) rfl (by omega) (.inr ⟨hh, ?_⟩))
  exact wpAny_pure ⟨_, rfl, h⟩
/-! what a match tells -/
theorem raw_raw : ∀ l : List Int, (l.map rawInt).map reRawOf = l
  | [] => rfl
  | i :: r => by rw [List.map_cons, List.map_cons, raw_raw r]; rfl
theorem found_ok {a P tp : Addr} {x : Str} {t : Tok} {lim : Nat} {li : Int} {l : List Int} {M : Model} {Q : ReFound → Shared → Prop} (ho : s.heap.get? a = some (matchObj P x t lim li tp)) (hs : s.heap.get? tp = some (spanObj l))
    (h : Q { fields := #[.str x t, .ref P, .int 0 0, .int lim 0, .int li 0, .ref tp], spans := l.toArray } s) : wpAny M A (reFound (.ref a)) Q E s := by
  unfold reFound
  refine wpAny_bind (wpAny_fieldsOf ho rfl ?_)
  unfold reRawItems
  refine wpAny_bind (wpAny_bind (wpAny_seqItems hs rfl (wpAny_pure (wpAny_pure ?_))))
  have e : ((some ((l.map rawInt).toArray)).getD #[]).map reRawOf = l.toArray := by
    simp only [Option.getD_some, List.map_toArray]
    rw [raw_raw]
  rw [e]; exact h
theorem group1 {a P tp : Addr} {x : Str} {t u : Tok} {lim st hd b e : Nat} {li : Int} (ho : s.heap.get? a = some (matchObj P x t lim li tp)) (hs : s.heap.get? tp = some (spanObj [st, hd, b, e])) (hx : x.cps.size < 2 ^ 24)
    (h : Q (.str ⟨x.cps.extract b e⟩ s.toks) { s with toks := s.toks + 1 }) :
    wpAny (model prog w) A (call (.builtin "re.Match.group") [.ref a, .int 1 u]) Q E s := by
  refine wpAny_call_entry slot_re_Match_group ⟨_, ho, rfl⟩ entry_re_Match_group ?_ (args_re_Match_group_2 _ _)
  unfold Builtin.«re.Match.group»
  refine wpAny_bind (wpAny_pure ?_)
  refine wpAny_bind (found_ok ho hs ?_)
  have hg : reGroupNumber { fields := #[.str x t, .ref P, .int 0 0, .int lim 0, .int li 0, .ref tp], spans := [(st : Int), hd, b, e].toArray } (.int 1 u) = pure 1 := rfl
  simp only [hg, pure_bind]
  unfold reGroupText
  have e2 : ([(st : Int), hd, b, e].toArray).getD (2 * 1) (-1) = b := rfl
  have e3 : ([(st : Int), hd, b, e].toArray).getD (2 * 1 + 1) (-1) = e := rfl
  simp only [e2, e3]
  rw [if_neg (by simp)]
  have ht : reTextOf ((#[.str x t, .ref P, .int 0 0, .int lim 0, .int li 0, .ref tp] : Array Value).getD 0 .none) = pure (x.cps, 0) := rfl
  simp only [ht, pure_bind, reSlice, beq_self_eq_true, if_true]
  refine wpAny_bind (wpAny_mkStr ?_ ?_)
  · exact wpAny_pure ⟨_, rfl, h⟩
  · show (x.cps.extract b e).size ≤ sizeLine
    simp only [Array.size_extract, sizeLine]; omega
theorem span0 {a P tp : Addr} {x : Str} {t u : Tok} {lim st hd : Nat} {li : Int} {r : List Int} (F : Fr g₀ L s.heap m) (N : News g₀ L s.heap news) (ho : s.heap.get? a = some (matchObj P x t lim li tp)) (hs : s.heap.get? tp = some (spanObj ((st : Int) :: (hd : Int) :: r)))
    (h : ∀ c h' t1 t2, Fr g₀ L h' m → News g₀ L h' ((c, { cls := .type "tuple", data := .seq #[.int st t1, .int hd t2] }) :: news) → (∀ p ∈ news, p.1 < c) → Q (.ref c) { s with heap := h', toks := s.toks + 2 }) :
    wpAny (model prog w) A (call (.builtin "re.Match.span") [.ref a, .int 0 u]) Q E s := by
  refine wpAny_call_entry slot_re_Match_span ⟨_, ho, rfl⟩ entry_re_Match_span ?_ (args_re_Match_span_2 _ _)
  unfold Builtin.«re.Match.span» reOneGroup
  have hsa : selfAndSome "Match.span" "span" 0 1 ⟨[.ref a, .int 0 u], []⟩ = pure (.ref a, [.int 0 u]) := rfl
  simp only [hsa, pure_bind, bind_assoc]
  refine wpAny_bind (found_ok ho hs ?_)
  have hg : reGroupNumber { fields := #[.str x t, .ref P, .int 0 0, .int lim 0, .int li 0, .ref tp], spans := ((st : Int) :: (hd : Int) :: r).toArray } (.int 0 u) = pure 0 := by
    unfold reGroupNumber
    simp only [asInt?, pure_bind, Option.isSome_some, if_true, asIndex]
    rw [if_neg (by simp; omega)]
    rfl
  simp only [hg, pure_bind]
  have e2 : (((st : Int) :: (hd : Int) :: r).toArray).getD (2 * 0) (-1) = st := rfl
  have e3 : (((st : Int) :: (hd : Int) :: r).toArray).getD (2 * 0 + 1) (-1) = hd := rfl
  simp only [e2, e3]
  refine wpAny_bind (wpAny_mkInt (wpAny_bind (wpAny_mkInt (wpAny_bind (wpAny_newTuple ?_ (by simp [sizeLine]))))))
  exact wpAny_pure ⟨_, rfl, h _ _ _ _ (F.push _) (N.push F _) fun p hp => Heap.lt_size (N p hp).1⟩
end
end Mine
end
section
open PySem PySem.W PyProof.Rows
set_option maxRecDepth 100000
set_option linter.unusedSimpArgs false
set_option linter.unusedVariables false
namespace Mine
open Sem (wp)
theorem slot_md_get : Slot "member_descriptor" "__get__" "member_descriptor.__get__" :=
  .of (owner := "member_descriptor") (n := "__get__") (by rw [typeLookup_type, builtinLookup_eq_fast]; kernel_rfl) (by decide +kernel) (by decide +kernel) (by decide +kernel)
    (by first | exact .inl (by decide +kernel) | exact .inr (by decide +kernel)) (by rw [isSubtype_type]; kernel_rfl)
theorem slot_md_set : Slot "member_descriptor" "__set__" "member_descriptor.__set__" :=
  .of (owner := "member_descriptor") (n := "__set__") (by rw [typeLookup_type, builtinLookup_eq_fast]; kernel_rfl) (by decide +kernel) (by decide +kernel) (by decide +kernel)
    (by first | exact .inl (by decide +kernel) | exact .inr (by decide +kernel)) (by rw [isSubtype_type]; kernel_rfl)
theorem entry_md_get : entryFor table "member_descriptor.__get__" = some Builtin.«member_descriptor.__get__» := entryFor_of_tree (by kernel_rfl)
theorem args_md_get (a b c : Value) : argsOk "member_descriptor.__get__" ⟨[a, b, c], []⟩ := by unfold argsOk; kernel_rfl
theorem ga_match : Slot "re.Match" "__getattribute__" "object.__getattribute__" :=
  .of (owner := "object") (n := "__getattribute__") (by rw [typeLookup_type, builtinLookup_eq_fast]; kernel_rfl) (by decide +kernel) (by decide +kernel) (by decide +kernel)
    (by first | exact .inl (by decide +kernel) | exact .inr (by decide +kernel)) (by rw [isSubtype_type]; kernel_rfl)
theorem entry_oga : entryFor table "object.__getattribute__" = some Builtin.«object.__getattribute__» := entryFor_of_tree (by kernel_rfl)
theorem args_oga (a b : Value) : argsOk "object.__getattribute__" ⟨[a, b], []⟩ := by unfold argsOk; kernel_rfl
theorem typeOf_mstr : typeOf (.builtin "re.Match.string") = pure (.type "member_descriptor") := by kernel_rfl
theorem entry_mstr : entryFor table "re.Match.string" = some Builtin.«re.Match.string» := entryFor_of_tree (by kernel_rfl)
theorem lk_mstr : typeLookup (.type "re.Match") "string" = pure (some (.builtin "re.Match.string")) := by rw [typeLookup_type, builtinLookup_eq_fast]; kernel_rfl
theorem owner_mstr : (".".intercalate ("re.Match.string".cutAt '.').dropLast) = "re.Match" := by
  have e0 : "re.Match.string".cutAt '.' = ["re", "Match", "string"] := by first | rfl | decide +kernel
  rw [e0]; decide +kernel
theorem sub_match : isSubtype (.type "re.Match") (.type "re.Match") = pure true := by rw [isSubtype_type]; kernel_rfl
section
variable {prog : Program} {w : World} {A : Around} {E : Value → Shared → Prop} {h : Heap} {g : Array GenState} {d : Drawn} {t : Nat} {os : OsState} {a P tp : Addr} {x : Str} {u : Tok} {lim : Nat} {li : Int}
theorem mstr_get {R : Result → Shared → Prop} (hx : h.get? a = some (matchObj P x u lim li tp)) (hq : R (.ok (.ret (.str x u))) ⟨h, g, d, t, os⟩) :
    codeAny (model prog w) A (.call (.builtin "member_descriptor.__get__") ⟨[.builtin "re.Match.string", .ref a, .type "re.Match"], []⟩) R ⟨h, g, d, t, os⟩ := by
  have hT : (⟨h, g, d, t, os⟩ : Shared).TypeIs (.ref a) "re.Match" := ⟨_, hx, rfl⟩
  have hc : (matchObj P x u lim li tp).cls = .type "re.Match" := rfl
  have hT5 : (⟨h, g, d, t, os⟩ : Shared).TypeIs (.builtin "re.Match.string") "member_descriptor" := typeOf_mstr
  have f8 : isSubtype (.type "re.Match") (.type (".".intercalate ("re.Match.string".cutAt '.').dropLast)) = pure true := by rw [owner_mstr]; exact sub_match
  refine codeAny_call_builtin slot_md_get.plain entry_md_get (slot_md_get.check _ _ _ _ _ _ _ _ hT5 (args_md_get _ _ _) ?_)
  unfold Builtin.«member_descriptor.__get__»
  repeat (any_goals (first | assumption | wp_step))
  refine ⟨Code.quiet_builtin _ (by decide +kernel), codeAny_builtin entry_mstr ?_⟩
  unfold Builtin.«re.Match.string»
  refine wpAny_bind (wpAny_field hx rfl rfl ?_)
  exact wpAny_pure hq
theorem mstr_entry {tk : Tok} {Q : Fin → Shared → Prop} (hx : h.get? a = some (matchObj P x u lim li tp)) (hq : Q (.done (.ret (.str x u))) ⟨h, g, d, t, os⟩) :
    wpAny (model prog w) A (Builtin.«object.__getattribute__» ⟨[.ref a, .str "string" tk], []⟩) Q E ⟨h, g, d, t, os⟩ := by
  have hT : (⟨h, g, d, t, os⟩ : Shared).TypeIs (.ref a) "re.Match" := ⟨_, hx, rfl⟩
  have hc : (matchObj P x u lim li tp).cls = .type "re.Match" := rfl
  have hT5 : (⟨h, g, d, t, os⟩ : Shared).TypeIs (.builtin "re.Match.string") "member_descriptor" := typeOf_mstr
  have f4 := lk_mstr
  have f5 := typeOf_mstr
  have f6 := slot_md_get.lookup
  have f7 := slot_md_set.lookup
  repeat (any_goals (first | assumption | wp_step))
  refine mstr_get hx ?_
  repeat (any_goals (first | assumption | wp_step))
theorem mstr_call {tk : Tok} {R : Result → Shared → Prop} (hx : h.get? a = some (matchObj P x u lim li tp)) (hq : R (.ok (.ret (.str x u))) ⟨h, g, d, t, os⟩) :
    codeAny (model prog w) A (.call (.builtin "object.__getattribute__") ⟨[.ref a, .str "string" tk], []⟩) R ⟨h, g, d, t, os⟩ :=
  codeAny_call_builtin ga_match.plain entry_oga (ga_match.check _ _ _ _ _ _ _ _ (show (⟨h, g, d, t, os⟩ : Shared).TypeIs (.ref a) "re.Match" from ⟨_, hx, rfl⟩) (args_oga _ _) (mstr_entry hx hq))
theorem mstr_by {tk : Tok} {fill expr : Bool} {Q : Value → Shared → Prop} (hx : h.get? a = some (matchObj P x u lim li tp))
    (hq : Q (.str x u) ⟨h, g, d, t, os⟩) : wpAny (model prog w) A (getAttrBy (.ref a) (.str "string" tk) fill expr) Q E ⟨h, g, d, t, os⟩ := by
  have hT : (⟨h, g, d, t, os⟩ : Shared).TypeIs (.ref a) "re.Match" := ⟨_, hx, rfl⟩
  have f2 := ga_match.lookup
  have f3 := ga_match.bind (.ref a)
  have hx0 : (expr && onTheHeap (Value.builtin "object.__getattribute__")) = false := by cases expr <;> rfl
  repeat (any_goals (first | assumption | wp_step))
  refine mstr_call hx ?_
  repeat (any_goals (first | assumption | wp_step))
theorem mstr_attr {expr : Bool} {Q : Value → Shared → Prop} (hx : h.get? a = some (matchObj P x u lim li tp))
    (hq : Q (.str x u) ⟨h, g, d, t + 1, os⟩) : wpAny (model prog w) A (getAttr (.ref a) "string" expr) Q E ⟨h, g, d, t, os⟩ := by
  unfold getAttr
  repeat (any_goals (first | assumption | with_reducible apply mstr_by hx | wp_step))
end
theorem no_bool : typeLookup (.type "re.Match") "__bool__" = pure none := by rw [typeLookup_type, builtinLookup_eq_fast]; kernel_rfl
theorem no_len : typeLookup (.type "re.Match") "__len__" = pure none := by rw [typeLookup_type, builtinLookup_eq_fast]; kernel_rfl
theorem truthy_match {M : Model} {A : Around} {E : Value → Shared → Prop} {s : Shared} {a P tp : Addr} {x : Str} {u : Tok} {lim : Nat} {li : Int} {Q : Bool → Shared → Prop} (hx : s.heap.get? a = some (matchObj P x u lim li tp)) (h : Q true s) : wpAny M A (truthy (.ref a)) Q E s := by
  have hT : s.TypeIs (.ref a) "re.Match" := ⟨_, hx, rfl⟩
  unfold truthy callSpecial?
  refine wpAny_bind (wpAny_bind (wpAny_specialOf hT no_bool (wpAny_pure ?_)))
  refine wpAny_bind (wpAny_specialOf hT no_len ?_)
  exact wpAny_pure h
end Mine
end
section
open PySem PySem.W PyProof.Rows
set_option maxRecDepth 100000
set_option linter.unusedSimpArgs false
set_option linter.unusedVariables false
namespace Mine
open PySem.Builtin.Re
theorem entry_subloop : entryFor table "re.Pattern.sub.loop" = some Builtin.«re.Pattern.sub.loop» := entryFor_of_tree (by kernel_rfl)
theorem call_fn : typeLookup (.type "function") "__call__" = pure (some (.builtin "function.__call__")) := by rw [typeLookup_type, builtinLookup_eq_fast]; kernel_rfl
theorem call_str : typeLookup (.type "str") "__call__" = pure none := by rw [typeLookup_type, builtinLookup_eq_fast]; kernel_rfl
theorem str_no_bytearray : isSubtype (.type "str") (.type "bytearray") = pure false := by rw [isSubtype_type]; kernel_rfl
section
variable {M : Model} {A : Around} {E : Value → Shared → Prop} {s : Shared}
theorem whole_ok {P : Addr} {code : Array Nat} {g : Nat} {x : Str} {t : Tok} {Q : ReTarget → Shared → Prop} (hp : Pat s.heap P code g)
    (h : Q { pattern := .ref P, string := .str x t, code := code, text := x.cps, kind := 0, groups := g, pos := 0, lim := x.cps.size } s) :
    wpAny M A (reWholeTarget (.ref P) (.str x t)) Q E s := by
  obtain ⟨pt, fl, c, t1, t2, vs, n, ho, hc, e⟩ := hp
  unfold reWholeTarget
  refine wpAny_bind (wpAny_fieldsOf ho rfl ?_)
  have ht : reTextOf (.str x t) = pure (x.cps, 0) := rfl
  simp only [ht, pure_bind]
  have hr : reNoCollectionInside (.str x t) 0 = pure () := rfl
  have h6 : (#[pt, fl, Value.int (g : Int) t1, Value.none, Value.none, Value.ref c, Value.int 0 t2] : Array Value).getD 6 Value.none = Value.int 0 t2 := rfl
  have h5 : (#[pt, fl, Value.int (g : Int) t1, Value.none, Value.none, Value.ref c, Value.int 0 t2] : Array Value).getD 5 Value.none = Value.ref c := rfl
  have h2 : (#[pt, fl, Value.int (g : Int) t1, Value.none, Value.none, Value.ref c, Value.int 0 t2] : Array Value).getD 2 Value.none = Value.int g t1 := rfl
  simp only [h6, h5, h2, hr, reRawNat, pure_bind]
  rw [if_neg (by decide), if_neg (by decide)]
  refine wpAny_bind (wpAny_bind (wpAny_seqItems hc rfl (wpAny_pure (wpAny_pure ?_))))
  have hg : (g : Int).toNat = g := rfl
  rw [hg]
  show Q { pattern := .ref P, string := .str x t, code := (vs.map reRawOf).map (·.toNat), text := x.cps, kind := 0, groups := g, pos := 0, lim := x.cps.size } s
  rw [e]
  exact h
end
theorem extract_all (x : Str) : (⟨x.cps.extract 0 x.cps.size⟩ : Str) = x := by
  cases x; simp
theorem strsAre_push {l : List Value} {ys : List Str} (h : StrsAre l ys) (y : Str) (t : Tok) : StrsAre (l ++ [.str y t]) (ys ++ [y]) := by
  induction h with
  | nil => exact .cons _ _ .nil
  | cons _ _ h ih => exact .cons _ _ ih
section
variable {prog : Program} {w : World} {A : Around} {E : Value → Shared → Prop} {s : Shared} {Q : Value → Shared → Prop}
/-- the last turn of a substitution: no more is found -/
theorem subloop_end {P D : Addr} {code : Array Nat} {g n : Nat} {x : Str} {t u1 u2 u3 u4 u5 : Tok} {repl : Value} {way : Int} {k done start : Int} {must wc : Bool} {its : Array Value} {ep : Nat} {ys : List Str} {rest : List Nat} {R : Result → Shared → Prop} (hp : Pat s.heap P code g) (hx : x.cps.size < 2 ^ 20)
    (hw : way = 1 ∨ (way = 0 ∧ ∃ y v, repl = .str y v)) (hD : s.heap.get? D = some { cls := .type "list", data := .seq its ep }) (hi : StrsAre its.toList ys) (hys : (ys.map (·.length)).sum + ys.length * 64 ≤ 1000000) (hiz : its.size < 1000)
    (hs : start.toNat ≤ x.cps.size) (hd : done.toNat < x.cps.size)
    (hc : Come failed n (Sre.forSearch code x.cps g start.toNat x.cps.size must)) (hn : n ≤ 2 ^ 60)
    (h : ∀ h' tk tok, (∀ b o, b ≠ D → s.heap.get? b = some o → h'.get? b = some o) → (wc = false → R (.ok (.ret (.str (Txt.join (Str.ofString "") (ys ++ [⟨x.cps.extract done.toNat x.cps.size⟩])) tok)) ) { s with heap := h', toks := tk }) ∧
      (wc = true → ∀ a t2, s.heap.objs.size ≤ a → h'.get? a = some { cls := .type "tuple", data := .seq #[.str (Txt.join (Str.ofString "") (ys ++ [⟨x.cps.extract done.toNat x.cps.size⟩])) tok, .int k t2] } → R (.ok (.ret (.ref a))) { s with heap := h', toks := tk })) :
    codeAny (model prog w) A (.builtin "re.Pattern.sub.loop" ⟨[.ref P, .str x t, repl, .int way u1, .int 0 u2, .int k u3, .int done u4, .int start u5, .bool must, .ref D, .bool wc], []⟩) R s := by
  refine codeAny_builtin entry_subloop ?_
  unfold Builtin.«re.Pattern.sub.loop»
  refine wpAny_bind (whole_ok hp ?_)
  dsimp only
  have key : ∀ {A' : Around} {Q' : Fin → Shared → Prop} {E' : Value → Shared → Prop} (f : Unit → Sem Fin), wpAny (model prog w) A' (f ()) Q' E' s → wpAny (model prog w) A' (if (way == 0) = true then (reLiteralCannotBeTurned repl >>= f) else f ()) Q' E' s := by
    intro A' Q' E' f hf
    rcases hw with rfl | ⟨rfl, y, v, rfl⟩
    · rw [if_neg (by decide)]; exact hf
    · rw [if_pos (by decide)]
      exact wpAny_bind (wpAny_pure hf)
  refine key (fun _ => _) ?_
  (try dsimp only)
  rw [if_neg (by simp)]
  unfold reNextFound
  obtain ⟨kk, hk, hh⟩ := hc
  refine wpAny_bind (runToEnd (e := stepN kk _) (n := kk) rfl (by omega) (.inr ⟨hh, ?_⟩))
  dsimp only
  rw [if_pos hd]
  have e0 : ∀ b e, reSlice x.cps 0 b e = mkStr ⟨x.cps.extract b e⟩ := fun _ _ => rfl
  simp only [e0]
  refine wpAny_bind (wpAny_mkStr ?_ (by show (x.cps.extract done.toNat x.cps.size).size ≤ sizeLine; simp only [Array.size_extract, sizeLine]; omega))
  refine wpAny_bind (wpAny_updateSeq hD rfl ?_ (by simp only [sizeLine]; omega) (by simp only [Array.size_push, sizeLine]; omega))
  have hD' : (s.heap.update D (Obj.mapSeq fun z => z.push (.str ⟨x.cps.extract done.toNat x.cps.size⟩ s.toks))).get? D = some { cls := .type "list", data := .seq (its.push (.str ⟨x.cps.extract done.toNat x.cps.size⟩ s.toks)) (if (its.push (.str ⟨x.cps.extract done.toNat x.cps.size⟩ s.toks)).size == its.size then ep else ep + 1) } := by
    rw [Heap.get?_update_self _ hD rfl]
    rfl
  have hk' : ∀ b o, b ≠ D → s.heap.get? b = some o → (s.heap.update D (Obj.mapSeq fun z => z.push (.str ⟨x.cps.extract done.toNat x.cps.size⟩ s.toks))).get? b = some o := fun b o hb e => by
    exact Heap.get?_update_of_ne _ (Ne.symm hb) e
  generalize hg : (s.heap.update D (Obj.mapSeq fun z => z.push (.str ⟨x.cps.extract done.toNat x.cps.size⟩ s.toks))) = h1 at *
  refine wpAny_bind (wpAny_mkStr ?_ (by show (x.cps.extract 0 0).size ≤ sizeLine; simp only [Array.size_extract, sizeLine]; omega))
  refine wpAny_bind (wpAny_seqItems hD' rfl ?_)
  have hne : ((some (its.push (.str ⟨x.cps.extract done.toNat x.cps.size⟩ s.toks))).getD #[]).isEmpty = false := by simp
  rw [hne]
  have he : (⟨x.cps.extract 0 0⟩ : Str) = Str.ofString "" := by simp; rfl
  rw [he]
  simp only [Bool.false_eq_true, if_false, beq_self_eq_true, if_true]
  refine wpAny_bind (join_listC (ys := ys ++ [⟨x.cps.extract done.toNat x.cps.size⟩]) ⟨_, hD', rfl, _, rfl⟩ ?_ (by decide) ?_ fun t' k' => ?_)
  · show StrsAre (its.push _).toList _
    rw [Array.toList_push]
    exact strsAre_push hi _ _
  · simp only [List.map_append, List.sum_append, List.map_cons, List.map_nil, List.sum_cons, List.sum_nil, List.length_append, List.length_cons, List.length_nil]
    have : (⟨x.cps.extract done.toNat x.cps.size⟩ : Str).length ≤ 2 ^ 20 := by
      show (x.cps.extract done.toNat x.cps.size).size ≤ _
      simp only [Array.size_extract]; omega
    omega
  obtain ⟨ha, hb⟩ := h h1 k' t' hk'
  cases wc with
  | false =>
    simp only [Bool.false_eq_true, if_false]
    exact wpAny_pure (ha rfl)
  | true =>
    simp only [if_true]
    refine wpAny_bind (wpAny_holding (wpAny_bind (wpAny_mkInt (wpAny_newTuple ?_ (by simp [sizeLine])))))
    obtain ⟨_, hb⟩ := h (h1.push { cls := .type "tuple", data := .seq #[.str (Txt.join (Str.ofString "") (ys ++ [⟨x.cps.extract done.toNat x.cps.size⟩])) t', .int k k'] }) (k' + 1) t' (fun b o hb e => Heap.get?_push_of_some _ (hk' b o hb e))
    have hsz : s.heap.objs.size ≤ h1.objs.size := by rw [← hg, Heap.size_update]; exact Nat.le_refl _
    exact wpAny_pure (hb rfl h1.objs.size k' hsz (Heap.get?_push_size _ rfl))
theorem joined1 (x : Str) : Txt.join (Str.ofString "") [x] = x := by
  cases x; rfl
theorem joined2 (x : Str) : Txt.join (Str.ofString "") [Str.ofString "", x] = x := by
  obtain ⟨x⟩ := x
  show (⟨(#[] ++ #[]) ++ x⟩ : Str) = _
  simp
/-- nothing is found: the text itself -/
theorem sub_none {P : Addr} {code : Array Nat} {n : Nat} {x : Str} {t : Tok} {f : Value} (hp : Pat s.heap P code 1) (hx : x.cps.size < 2 ^ 20) (hx0 : 0 < x.cps.size) (hf : s.TypeIs f "function")
    (hc : Come failed n (Sre.forSearch code x.cps 1 0 x.cps.size false)) (hn : n ≤ 2 ^ 60)
    (h : ∀ h' tk tok, Kp s.heap h' → Q (.str x tok) { s with heap := h', toks := tk }) :
    wpAny (model prog w) A (call (.builtin "re.Pattern.sub") [.ref P, f, .str x t]) Q E s := by
  have p' := hp
  obtain ⟨pt, fl, c, t1, t2, vs, n', ho, hcc, e'⟩ := hp
  refine wpAny_call (codeAny_call_builtin slot_re_Pattern_sub.plain entry_re_Pattern_sub (slot_re_Pattern_sub.check _ _ _ _ _ _ _ _ ⟨_, ho, rfl⟩ (args_re_Pattern_sub_3 _ _ _) ?_))
  unfold Builtin.«re.Pattern.sub» reSubstitute
  have hnm : reNamed "re.Pattern.sub" "sub" ["repl", "string", "count"] 2 [f, .str x t] [] = pure [some f, some (.str x t), none] := rfl
  simp only [hnm, pure_bind]
  refine wpAny_bind (wpAny_specialOf hf call_fn ?_)
  simp only [Option.isSome_some, if_true, pure_bind]
  refine wpAny_bind (wpAny_holding (whole_ok p' ?_))
  rw [if_pos (by decide)]
  unfold reNotHeld isInstance
  simp only [typeOf, pure_bind, str_no_bytearray, Bool.false_eq_true, if_false]
  refine wpAny_bind (wpAny_newObj_type ?_ (by size_fits))
  refine wpAny_pure ⟨Code.quiet_builtin _ (by decide +kernel), ?_⟩
  have hk : Kp s.heap (s.heap.push { cls := .type "list", data := .seq ([] : List Value).toArray }) := fun b o e => Heap.get?_push_of_some _ e
  refine subloop_end (code := code) (g := 1) (n := n) (ys := []) (rest := []) (its := #[]) (ep := 0) (p'.keeps hk) hx (.inl rfl) (Heap.get?_push_size _ rfl) .nil (by simp) (by simp) (by simp) hx0 hc hn ?_
  intro h' tk tok hkk
  refine ⟨fun _ => ?_, fun hw => (nomatch hw)⟩
  have e1 : Txt.join (Str.ofString "") ([] ++ [⟨x.cps.extract (Int.toNat 0) x.cps.size⟩]) = x := by
    rw [List.nil_append, joined1]; exact extract_all x
  rw [e1]
  exact h h' tk tok fun b o e => hkk b o (Nat.ne_of_lt (Heap.lt_size e)) (hk b o e)
/-- what stands ahead of the first letter goes -/
theorem subn_twin {P : Addr} {c : Nat} {r : List Nat} {x : Str} {t u : Tok} (hp : Pat s.heap P twinCode 0) (hxe : x.cps = (59 :: 32 :: c :: r).toArray) (hc : letC c = true) (hx : (59 :: 32 :: c :: r).length < 2 ^ 20)
    (h : ∀ h' tk a t1 t2, Kp s.heap h' → s.heap.objs.size ≤ a → h'.get? a = some { cls := .type "tuple", data := .seq #[.str ⟨(c :: r).toArray⟩ t1, .int 1 t2] } → Q (.ref a) { s with heap := h', toks := tk }) :
    wpAny (model prog w) A (call (.builtin "re.Pattern.subn") [.ref P, .str (Str.ofString "") u, .str x t]) Q E s := by
  have p' := hp
  obtain ⟨pt, fl, cc, t1, t2, vs, n', ho, hcc, e'⟩ := hp
  have hsz : x.cps.size = r.length + 3 := by rw [hxe]; simp
  have hx' : x.cps.size < 2 ^ 20 := by rw [hxe]; simpa using hx
  have hit : Come (Hit 0 2 #[] (-1)) 20 (Sre.forSearch twinCode x.cps 0 0 x.cps.size false) := by rw [hxe]; exact twin_hit hc (by omega)
  have hmiss : Come failed (3 * x.cps.size + 9) (Sre.forSearch twinCode x.cps 0 2 x.cps.size false) := twin_miss (by omega) (by omega)
  have hex : (⟨x.cps.extract 2 x.cps.size⟩ : Str) = ⟨(c :: r).toArray⟩ := by rw [hxe]; simp
  clear hxe hx
  refine wpAny_call (codeAny_call_builtin slot_re_Pattern_subn.plain entry_re_Pattern_subn (slot_re_Pattern_subn.check _ _ _ _ _ _ _ _ ⟨_, ho, rfl⟩ (args_re_Pattern_subn_3 _ _ _) ?_))
  unfold Builtin.«re.Pattern.subn» reSubstitute
  have hnm : reNamed "re.Pattern.subn" "subn" ["repl", "string", "count"] 2 [.str (Str.ofString "") u, .str x t] [] = pure [some (.str (Str.ofString "") u), some (.str x t), none] := rfl
  simp only [hnm, pure_bind]
  refine wpAny_bind (wpAny_specialOf (typeIs_str _ _ _) call_str ?_)
  have hcon : (Str.ofString "").cps.contains 92 = false := by decide +kernel
  simp only [Option.isSome_none, Bool.false_eq_true, if_false, asStr?, pure_bind, hcon, Bool.not_false, if_true]
  refine wpAny_bind (wpAny_holding (whole_ok p' ?_))
  rw [if_neg (by decide)]
  refine wpAny_bind (wpAny_newObj_type ?_ (by size_fits))
  refine wpAny_pure ⟨Code.quiet_builtin _ (by decide +kernel), ?_⟩
  have hk : Kp s.heap (s.heap.push { cls := .type "list", data := .seq ([] : List Value).toArray }) := fun b o e => Heap.get?_push_of_some _ e
  have hD0 : (s.heap.push { cls := .type "list", data := .seq ([] : List Value).toArray }).get? s.heap.objs.size = some { cls := .type "list", data := .seq ([] : List Value).toArray } := Heap.get?_push_size _ rfl
  refine codeAny_builtin entry_subloop ?_
  unfold Builtin.«re.Pattern.sub.loop»
  refine wpAny_bind (whole_ok (p'.keeps hk) ?_)
  dsimp only [rawInt]
  have hl : reLiteralCannotBeTurned (.str (Str.ofString "") u) = pure () := rfl
  rw [if_pos (by decide), hl, pure_bind]
  rw [if_neg (by decide)]
  unfold reNextFound
  dsimp only
  have z0 : Int.toNat 0 = 0 := rfl
  rw [z0]
  obtain ⟨kk, hk1, hh⟩ := hit
  generalize Sre.forSearch twinCode x.cps 0 0 x.cps.size false = mm at *
  refine wpAny_bind (runToEnd (e := stepN kk mm) (n := kk) rfl (by omega) (.inl ⟨hh.1, ?_⟩))
  obtain ⟨_, hst, hhd, hmk, hlm⟩ := hh
  dsimp only
  rw [hst, hhd]
  rw [if_neg (by decide), if_pos (by decide), pure_bind]
  rw [if_pos (by rfl)]
  refine wpAny_bind (wpAny_updateSeq hD0 rfl ?_ (by simp [sizeLine]) (by simp [sizeLine]))
  refine wpAny_pure ⟨Code.quiet_builtin _ (by decide +kernel), ?_⟩
  have hD' : ((s.heap.push { cls := .type "list", data := .seq ([] : List Value).toArray }).update s.heap.objs.size (Obj.mapSeq fun z => z.push (.str (Str.ofString "") u))).get? s.heap.objs.size = some { cls := .type "list", data := .seq #[.str (Str.ofString "") u] 1 } := by
    rw [Heap.get?_update_self _ hD0 rfl]
    rfl
  have hk2 : Kp s.heap ((s.heap.push { cls := .type "list", data := .seq ([] : List Value).toArray }).update s.heap.objs.size (Obj.mapSeq fun z => z.push (.str (Str.ofString "") u))) := fun b o e => Heap.get?_update_of_ne _ (Ne.symm (Nat.ne_of_lt (Heap.lt_size e))) (hk b o e)
  have hsz2 : s.heap.objs.size ≤ ((s.heap.push { cls := .type "list", data := .seq ([] : List Value).toArray }).update s.heap.objs.size (Obj.mapSeq fun z => z.push (.str (Str.ofString "") u))).objs.size := by
    rw [Heap.size_update, Heap.size_push]; omega
  generalize ((s.heap.push { cls := .type "list", data := .seq ([] : List Value).toArray }).update s.heap.objs.size (Obj.mapSeq fun z => z.push (.str (Str.ofString "") u))) = h2 at *
  refine subloop_end (s := { s with heap := h2 }) (code := twinCode) (g := 0) (n := _) (ys := [Str.ofString ""]) (rest := []) (its := #[.str (Str.ofString "") u]) (ep := 1) (p'.keeps hk2) hx' (.inr ⟨rfl, _, _, rfl⟩) hD' (.cons _ _ .nil) (by decide) (by simp) (by show 2 ≤ x.cps.size; omega) (by show 2 < x.cps.size; omega) hmiss (by omega) ?_
  intro h' tk tok hkk
  refine ⟨fun hw => (nomatch hw), fun _ a t2 ha hget => ?_⟩
  have e1 : Txt.join (Str.ofString "") ([Str.ofString ""] ++ [⟨x.cps.extract (Int.toNat (2 : Nat)) x.cps.size⟩]) = ⟨(c :: r).toArray⟩ := by
    show Txt.join _ [Str.ofString "", _] = _
    rw [joined2]
    exact hex
  rw [e1] at hget
  exact h h' tk a tok t2 (fun b o e => hkk b o (Nat.ne_of_lt (Heap.lt_size e)) (hk2 b o e)) (Nat.le_trans hsz2 ha) hget
end
end Mine
end
section
open PySem PySem.W PyProof.Rows
set_option maxRecDepth 100000
set_option maxHeartbeats 0
set_option linter.unusedVariables false
namespace Mine
local macro_rules | `(tactic| cell_enter) => `(tactic| (refine' enter ?k1 ?k6 ?k7 ?k9 ?kB ?_ ?c2 ?c3 ?c4 ?c5; (case k1 => k_asm); (case k6 => k_is); (case k7 => k_is); (case k9 => exact BindsTo.of_eq rfl); (case c5 => decide); (case kB => exact locs rfl); (case c2 => exact rfl); (case c3 => exact rfl); (case c4 => exact rfl); intro dp9 fr9 gd9 un9 L9 h9 hA2 hA3 R9 F9 N9 X9 T9; (try dsimp only); (try k_fold)))
theorem cut_none (x : Str) : Txt.slice x none (some ((0 : Nat) : Int)) = ⟨#[]⟩ := by
  have := slice_closes_to (x := x) (j := ((0 : Nat) : Int)) ⟨by omega, by omega⟩
  rw [eq_of_beq this]; simp
theorem cut_from {x : Str} {e : Nat} (he : e ≤ x.cps.size) : Txt.slice x (some (e : Int)) none = ⟨(x.cps.toList.drop e).toArray⟩ := by
  rw [slice_from_eq (b := x.length) (by omega) (by show (e : Int) ≤ (x.cps.size : Int); omega) rfl]
  congr 2
  rw [List.take_of_length_le]
  · simp
  · show (x.cps.toList.drop (Int.toNat e)).length ≤ ((x.cps.size : Int) - e).toNat
    simp
theorem nil_cat (y : Str) : (⟨#[]⟩ : Str) ++ y = y := by
  cases y; show (⟨#[] ++ _⟩ : Str) = _; simp
section
variable {w : World} {A : Around} {E : Value → Shared → Prop} {s : Shared} {p : Program} {loose : List Str} {mean : ExcName → Option Value} {mg mb : Str → Option Value} {Q : Value → Shared → Prop}
local macro_rules | `(tactic| walk_at "getMethod ref") => `(tactic| (k_here; (with_reducible show wpAny _ _ (getMethod (Value.ref _) (PySem.Str.ofString "span") _) _ _ _); refine matchMethod (Fr.keep (by assumption) _ _ (by assumption)) slot_re_Match_span type_re_Match_span ?_))
local macro_rules | `(tactic| walk_at "call builtin:re.Match.span") => `(tactic| (k_here; refine span0 (by assumption) (by assumption) (Fr.keep (by assumption) _ _ (by assumption)) (Fr.keep (by assumption) _ _ (by assumption)) ?_; intro c' h' t1' t2' F' N' l1; (try k_lt l1); (try k_sweep)))
local macro_rules | `(tactic| walk_at "getAttr ref") => `(tactic| (k_here; (with_reducible show wpAny _ _ (getAttr (Value.ref _) (PySem.Str.ofString "string") _) _ _ _); refine mstr_attr (Fr.keep (by assumption) _ _ (by assumption)) ?_))
theorem c_unmatched {a P tp : Addr} {x : Str} {u : Tok} {lim e : Nat} {li : Int} {r : List Int} (ho : s.heap.get? a = some (matchObj P x u lim li tp)) (hs : s.heap.get? tp = some (spanObj (((0 : Nat) : Int) :: (e : Int) :: r))) (hx : x.length ≤ 1048576) (he : e ≤ x.cps.size) (R : Ready (Mine.hd.heap_1 w.params) p loose mean mg mb A 2 s.heap)
    (ret : ∀ t h' tk, Kp s.heap h' → Q (.str ⟨(x.cps.toList.drop e).toArray⟩ t) { s with heap := h', toks := tk }) :
    On PySem.Challenge.rw_qh0025_01 Mine.hd.heap_1 (wpAny (model prog w) A (call (.ref 50) [.ref a] ) Q E s) := by
  k_fill
  unfold On
  have hx2 : x.cps.size ≤ 1048576 := hx
  k_dflt cell_enter
  have ret9 : ∀ t h' tk, Kp s.heap h' → Q (.str (Txt.slice x none (some ((0 : Nat) : Int)) ++ Txt.slice x (some (e : Int)) none) t) { s with heap := h', toks := tk } := by rw [cut_none, cut_from he, nil_cat]; exact ret
  k_steps
  exact ret9 _ _ _ (Fr.keep (by assumption))
end
end Mine
end
section
open PySem PySem.W PyProof.Rows
set_option maxRecDepth 100000
set_option linter.unusedSimpArgs false
set_option linter.unusedVariables false
namespace Mine
open PySem.Builtin.Re
theorem pat_token {P : Params} {h : Heap} (X : (Mine.hd.heap_1 P).In h) : Pat h 55 tokenCode 1 := ⟨_, _, _, _, _, _, _, X _ _ rfl, X _ _ rfl, by kernel_rfl⟩
theorem pat_quoted {P : Params} {h : Heap} (X : (Mine.hd.heap_1 P).In h) : Pat h 60 quotedCode 1 := ⟨_, _, _, _, _, _, _, X _ _ rfl, X _ _ rfl, by kernel_rfl⟩
theorem pat_value {P : Params} {h : Heap} (X : (Mine.hd.heap_1 P).In h) : Pat h 65 valueCode 1 := ⟨_, _, _, _, _, _, _, X _ _ rfl, X _ _ rfl, by kernel_rfl⟩
theorem pat_escape {P : Params} {h : Heap} (X : (Mine.hd.heap_1 P).In h) : Pat h 70 escapeCode 1 := ⟨_, _, _, _, _, _, _, X _ _ rfl, X _ _ rfl, by kernel_rfl⟩
theorem pat_twin {P : Params} {h : Heap} (X : (Mine.hd.heap_1 P).In h) : Pat h 43 twinCode 0 := ⟨_, _, _, _, _, _, _, X _ _ rfl, X _ _ rfl, by kernel_rfl⟩
theorem pat_joinToken {P : Params} {h : Heap} (X : (Mine.hd.heap_1 P).In h) : Pat h 82 joinTokenCode 0 := ⟨_, _, _, _, _, _, _, X _ _ rfl, X _ _ rfl, by kernel_rfl⟩
theorem pat_joinEscape {P : Params} {h : Heap} (X : (Mine.hd.heap_1 P).In h) : Pat h 87 joinEscapeCode 1 := ⟨_, _, _, _, _, _, _, X _ _ rfl, X _ _ rfl, by kernel_rfl⟩
end Mine
end
section
open PySem PySem.W PyProof.Rows
set_option maxRecDepth 100000
set_option linter.unusedSimpArgs false
set_option linter.unusedVariables false
namespace Mine
/-- a mark at which the walk halts -/
def Hold (P : Prop) : Prop := P
theorem hold {P : Prop} (h : Hold P) : P := h
theorem unhold {P : Prop} (h : P) : Hold P := h
/-- the end of a turn -/
inductive GEndI (h₀ : Heap) (L : Addr) (wr : List Addr) (own : List (Addr × Obj)) (Jn : (Str → Option Value) → List (Addr × Obj) → Prop) (g : Array GenState) (d : Drawn) (o : OsState) (s₂ : Shared) : Prop
  | intro : ∀ h' tk m₂ news₂, s₂ = ⟨h', g, d, tk, o⟩ → Fr h₀ L h' m₂ → News h₀ L h' (own ++ news₂) → (∀ p ∈ news₂, p.1 ∉ wr) → Jn m₂ news₂ → GEndI h₀ L wr own Jn g d o s₂
def GEnd (h₀ : Heap) (L : Addr) (wr : List Addr) (own : List (Addr × Obj)) (Jn : (Str → Option Value) → List (Addr × Obj) → Prop) (s s₂ : Shared) : Prop := GEndI h₀ L wr own Jn s.gens s.drawn s.os s₂
def GPost (h₀ : Heap) (L : Addr) (wr : List Addr) (own : List (Addr × Obj)) (Jn : (Str → Option Value) → List (Addr × Obj) → Prop) (s : Shared) (Q : Flow → Shared → Prop) (f : Flow) (s₂ : Shared) : Prop := match f with
  | .ret v => Q (.ret v) s₂
  | .brk => Q .next s₂
  | _ => GEnd h₀ L wr own Jn s s₂
section
variable {prog : Program} {w : World} {A : Around} {s : Shared} {env : Env} {h₀ : Heap} {Q : Flow → Shared → Prop}
abbrev NoE : Value → Shared → Prop := fun _ _ => False
theorem loopG {target : Expr} {body : List Stmt} {I : Addr} {fp wr : List Addr} {n : Nat} {P : Nat → Value → Prop} {St : Nat → Heap → Prop} {m : Str → Option Value} {news : List (Addr × Obj)}
    (W : Walks prog w A I fp wr n P St) (hLf : env.locals ∉ fp) (hwr : ∀ b ∈ wr, h₀.get? b = none) (hnw : ∀ p ∈ news, p.1 ∉ wr)
    (hst : St 0 s.heap) (F : Fr h₀ env.locals s.heap m) (N : News h₀ env.locals s.heap news)
    (J : Nat → (Str → Option Value) → List (Addr × Obj) → Prop) (h0 : J 0 m news)
    (step : ∀ i v m₁ news₁ h tk own, i < n → P i v → J i m₁ news₁ → (∀ p ∈ news₁, p.1 ∉ wr) → (∀ p ∈ own, p.1 ∈ fp) → (∀ b ∈ fp, h₀.get? b = none → ∀ o, h.get? b = some o → (b, o) ∈ own) → St (i + 1) h → Fr h₀ env.locals h m₁ → News h₀ env.locals h (own ++ news₁) →
      wpAny (model prog w) A (assign target env v) (fun _ s₁ => wpAny (model prog w) A (execs body env) (GPost h₀ env.locals wr own (J (i + 1)) s Q) NoE s₁) NoE { s with heap := h, toks := tk })
    (hR : ∀ h' tk m' news', Fr h₀ env.locals h' m' → News h₀ env.locals h' news' → (∀ p ∈ news', p.1 ∉ wr) → J n m' news' → Q .next { s with heap := h', toks := tk })
    (ht : ∀ v, letOwnedTupleGo target (.ref I) v = pure () := by intro _; rfl) :
    codeAny (model prog w) A (.forLoop target (.ref I) body [] env) (fun r s' => match r with | .ok f => Q f s' | .error e => cameBackBy (model prog w) A env NoE e s') s := by
  have hLw : env.locals ∉ wr := fun h => hLf (W.sub _ h)
  have old : ∀ b o, h₀.get? b = some o → b ∉ wr := fun b o e hb => by rw [hwr b hb] at e; cases e
  refine codeAny_forLoop
    (fun k s' => ∃ h' tk m' news' i, s' = { s with heap := h', toks := tk } ∧ St i h' ∧ Fr h₀ env.locals h' m' ∧ News h₀ env.locals h' news' ∧ (∀ p ∈ news', p.1 ∉ wr) ∧ J i m' news' ∧ i ≤ n ∧ k = n + 1 - i) ?_ (n + 1)
    ⟨s.heap, s.toks, m, news, 0, rfl, hst, F, N, hnw, h0, Nat.zero_le _, rfl⟩ ht
  rintro k s' ⟨h', tk, m', news', i, rfl, hst', F', N', hnw', hJ, hi, rfl⟩
  have next : ∀ h₁ : Heap, (∀ b o, b ∉ wr → h'.get? b = some o → h₁.get? b = some o) → Fr h₀ env.locals h₁ m' ∧ News h₀ env.locals h₁ news' := fun h₁ hk₁ =>
    ⟨⟨F'.ns.at' fun o e => hk₁ _ o hLw e, fun b o e => hk₁ b o (old b o e) (F'.keep b o e), F'.above⟩, fun p hp => ⟨hk₁ _ _ (hnw' p hp) (N' p hp).1, (N' p hp).2⟩⟩
  by_cases hlt : i < n
  · refine W.item i _ _ _ hlt hst' fun v h₁ tk₁ hP hst₁ hk₁ => ?_
    obtain ⟨F₁, N₁⟩ := next h₁ hk₁
    have Nown : News h₀ env.locals h₁ (ownOf h₀ fp h₁) := news_ownOf hLf
    refine wpAny_mono (step i v m' news' h₁ tk₁ (ownOf h₀ fp h₁) hlt hP hJ hnw' ownOf_sub (fun b hb hn o e => mem_ownOf hb hn e) hst₁ F₁ (Nown.append N₁)) (fun _ s₂ h₂ => ?_) fun _ _ e => e.elim
    refine wpAny_mono h₂ (fun f s₃ h₃ => ?_) fun _ _ e => e.elim
    have fin : GEnd h₀ env.locals wr (ownOf h₀ fp h₁) (J (i + 1)) s s₃ → ∃ m, m < n + 1 - i ∧ ∃ h' tk m' news' j, s₃ = { s with heap := h', toks := tk } ∧ St j h' ∧ Fr h₀ env.locals h' m' ∧ News h₀ env.locals h' news' ∧ (∀ p ∈ news', p.1 ∉ wr) ∧ J j m' news' ∧ j ≤ n ∧ m = n + 1 - j := by
      rintro ⟨h₃', tk₃, m₂, news₂, rfl, F₃, N₃, ha₃, hJ₃⟩
      refine ⟨n + 1 - (i + 1), by omega, h₃', tk₃, m₂, news₂, i + 1, rfl, ?_, F₃, N₃.right, ha₃, hJ₃, hlt, rfl⟩
      refine W.frame _ _ _ hst₁ fun b hb o e => ?_
      cases hn : h₀.get? b with
      | some o₀ =>
        have : o₀ = o := by have := F₁.keep b o₀ hn; rw [e] at this; exact (Option.some.inj this).symm
        exact this ▸ F₃.keep b o₀ hn
      | none => exact (N₃ _ (List.mem_append_left _ (mem_ownOf hb hn e))).1
    cases f with
    | ret v => exact h₃
    | brk => exact h₃
    | cont => exact fin h₃
    | next => exact fin h₃
  · have hin : i = n := by omega
    subst hin
    refine W.done _ _ _ hst' fun h₁ tk₁ hk₁ => wpAny_execs_nil ?_
    obtain ⟨F₁, N₁⟩ := next h₁ hk₁
    exact hR h₁ tk₁ m' news' F₁ N₁ hnw' hJ
/-- a for statement: its source, then its iterator, then the loop -/
theorem For_G {target iter : Expr} {body : List Stmt} {pos : Pos}
    (h : wpAny (model prog w) A (eval iter env) (fun xv s₁ => Hold (wpAny (model prog w) A (pyIter xv) (fun it s₂ => codeAny (model prog w) A (.forLoop target it body [] env) (fun r s' => match r with | .ok f => Q f s' | .error e => cameBackBy (model prog w) A env NoE e s') s₂) NoE s₁)) NoE s)
    (hs : ∀ x, foldedSetIterable iter env x = pure x := by intro _; rfl) :
    wpAny (model prog w) A (exec (.For target iter body [] pos) env) Q NoE s := wpAny_For h hs
/-- the loop over a list -/
theorem iterG {target : Expr} {body : List Stmt} {l : Addr} {vs : List Value} {m : Str → Option Value} {news : List (Addr × Obj)} (hh : A.handled = none) (hl : s.heap.IsList l vs.toArray) (hL : l ≠ env.locals)
    (F : Fr h₀ env.locals s.heap m) (N : News h₀ env.locals s.heap news) (J : Nat → (Str → Option Value) → List (Addr × Obj) → Prop) (h0 : J 0 m news)
    (step : ∀ i v m₁ news₁ h tk I own, vs[i]? = some v → J i m₁ news₁ → (∀ p ∈ news, p.1 < I) → (∀ p ∈ news₁, p.1 ≠ I) → (∀ p ∈ own, p.1 = I ∨ p.1 = l) → (∃ it, (I, it) ∈ own) → Fr h₀ env.locals h m₁ → News h₀ env.locals h (own ++ news₁) →
      wpAny (model prog w) A (assign target env v) (fun _ s₁ => wpAny (model prog w) A (execs body env) (GPost h₀ env.locals [I] own (J (i + 1)) s Q) NoE s₁) NoE { s with heap := h, toks := tk })
    (hR : ∀ h' tk m' news', Fr h₀ env.locals h' m' → News h₀ env.locals h' news' → J vs.length m' news' → Q .next { s with heap := h', toks := tk })
    (ht : ∀ I v, letOwnedTupleGo target (.ref I) v = pure () := by intro _ _; rfl) :
    wpAny (model prog w) A (pyIter (.ref l)) (fun it s₂ => codeAny (model prog w) A (.forLoop target it body [] env) (fun r s' => match r with | .ok f => Q f s' | .error e => cameBackBy (model prog w) A env NoE e s') s₂) NoE s := by
  refine wpAny_pyIter_list hl ?_
  have hlt : l < s.heap.objs.size := by obtain ⟨o, ho, _⟩ := hl; exact Heap.lt_size ho
  have hne : l ≠ s.heap.objs.size := Nat.ne_of_lt hlt
  have W := Walks.list (prog := prog) (w := w) hh s.heap.objs.size l hne vs.toArray
  have hlen : vs.toArray.size = vs.length := by simp
  rw [hlen] at W
  have hnI : ∀ p ∈ news, p.1 < s.heap.objs.size := fun p hp => Heap.lt_size (N p hp).1
  refine loopG W (m := m) (news := news) ?_ ?_ ?_ ⟨⟨_, Heap.get?_push_size _ rfl, rfl, rfl⟩, hl.at fun o e => Heap.get?_push_of_some _ e⟩ (F.push _) (fun p hp => ⟨Heap.get?_push_of_some _ (N p hp).1, (N p hp).2⟩) J h0 ?_ ?_ (ht _)
  · intro hm
    rcases List.mem_cons.mp hm with e | hm
    · exact absurd F.ns.lt (e ▸ Nat.lt_irrefl _)
    · exact hL (List.mem_singleton.mp hm).symm
  · intro b hb
    rw [List.mem_singleton.mp hb]
    exact next_is_new F
  · intro p hp hI
    exact absurd (hnI p hp) ((List.mem_singleton.mp hI) ▸ Nat.lt_irrefl _)
  · intro i v m₁ news₁ h tk own hi hP hJ hoff hown hmem hst F₁ N₁
    obtain ⟨⟨oI, hoI, _⟩, _⟩ := hst
    exact step i v m₁ news₁ h tk s.heap.objs.size own (by simpa using hP) hJ hnI (fun p hp e => hoff p hp (by rw [e]; exact List.mem_singleton.mpr rfl)) (fun p hp => by
      rcases List.mem_cons.mp (hown p hp) with e | e
      · exact .inl e
      · exact .inr (List.mem_singleton.mp e)) ⟨oI, hmem _ (List.mem_cons_self ..) (next_is_new F) _ hoI⟩ F₁ N₁
  · intro h' tk m' news' F' N' _ hJ
    exact hR h' tk m' news' F' N' hJ
end
end Mine
end
section
open PySem PySem.W PyProof.Rows PySem.Calls
set_option maxRecDepth 100000
set_option linter.unusedSimpArgs false
set_option linter.unusedVariables false
namespace Mine
section
variable {prog : Program} {w : World} {A : Around} {E : Value → Shared → Prop} {s : Shared} {B : Heap} {L : Addr} {m mg mb : Str → Option Value} {p : Program} {loose : List Str} {mean : ExcName → Option Value} {Q : Value → Shared → Prop}
/-- a lambda is made: a new def, and a table that may have grown -/
theorem lam_make {params : Arguments} {body : Expr} {scope : Scope} {pos : Pos} {cn : Str} {cs : Scope} {a c P : Addr} {ccd : Value} {ps : Array Value} (F : Fr B L s.heap m) (T : Top p loose mean mg mb B) (C : CodeHd B c P) (hcd : ccd = .ref c)
    (hP : s.heap.get? P = some (tabObj ps)) (ht : TriplesOk ps.toList)
    (h : ∀ f ps' h' tk, (∀ b o, b ≠ P → s.heap.get? b = some o → h'.get? b = some o) → h'.get? P = some (tabObj ps') → TriplesOk ps'.toList → s.heap.objs.size ≤ f → (∃ o, h'.get? f = some o ∧ o.cls = .type "function") → Q (.ref f) { s with heap := h', toks := tk })
    (hdef : defaultsOf params (envOf cn cs L a ccd) = ([], []) := by rfl) (hcl : closureFor scope (envOf cn cs L a ccd) = pure [] := by rfl) :
    wpAny (model prog w) A (eval (.Lambda params body scope pos) (envOf cn cs L a ccd)) Q E s := by
  have hgs := T.g.keeps F.keep
  obtain ⟨bm, ob, b1, b2, b3, b4, b5, b6⟩ := T.bmain
  have hgP : mainGlobals ≠ P := fun q => by
    obtain ⟨o, es, ep, e, hd, _⟩ := hgs
    rw [q, hP] at e; cases e; cases hd
  have hbP : bm ≠ P := fun q => by
    have e := F.keep _ _ b3
    rw [q, hP] at e; cases e; cases b4
  have hbG : bm ≠ mainGlobals := fun q => by
    obtain ⟨o, es, ep, e, hd, _⟩ := T.g
    rw [q, e] at b3; cases b3; rw [hd] at b6; cases b6
  have hb : s.heap.BuiltinsAt mg P := ⟨bm, ob, b1, b2, hbG, hbP, F.keep _ _ b3, b4, b5, b6⟩
  have hPs : P < s.heap.objs.size := Heap.lt_size hP
  refine kla_eval hdef ?_
  cases hc : codeAmong pos ps.toList with
  | none =>
    refine kla_makeFunction (mg := mg) hcl rfl hgs hcd (C.keeps F.keep) hP ht hc hgP hb fun c' ctv h' tk hx hge hlt hrec htb => ?_
    refine h h'.objs.size _ _ tk (fun b o hbne e => Heap.get?_push_of_some _ (hx b o hbne e)) (Heap.get?_push_of_some _ htb) ?_ (Nat.le_trans hge (Nat.le_of_lt hlt)) ⟨_, Heap.get?_push_size _ rfl, rfl⟩
    rw [Array.toList_append]
    exact TriplesOk_snoc _ _ _ _ ht
  | some cv =>
    refine kla_makeFunctionHit (mg := mg) hcl rfl hgs hcd (C.keeps F.keep) hP ht hc hb fun ctv h' tk hk hsz => ?_
    exact h h'.objs.size ps _ tk (fun b o _ e => Heap.get?_push_of_some _ (hk b o e)) (Heap.get?_push_of_some _ (hk _ _ hP)) ht hsz ⟨_, Heap.get?_push_size _ rfl, rfl⟩
/-- one more item for a list at the ledger's head -/
theorem append_top {D : Addr} {its : Array Value} {n : Nat} {x : Value} {rest : List (Addr × Obj)} (F : Fr B L s.heap m) (N : News B L s.heap ((D, listOf its n) :: rest)) (hne : ∀ q ∈ rest, q.1 ≠ D)
    (h : ∀ h', Fr B L h' m → News B L h' ((D, listOf (its.push x) (n + 1)) :: rest) → Q .none { s with heap := h' }) (hsz : its.size ≤ sizeLine) : wpAny (model prog w) A (call (.builtin "list.append") [.ref D, x]) Q E s :=
  append_K F N (Upd.head hne) h hsz
end
/-- a place hidden -/
theorem hide_kp {G h : Heap} {ts : List Addr} (k : Kp G h) (hn : ∀ b ∈ ts, G.get? b = none) : Kp G (hideAll h ts) := fun b o e => hideAll_get _ (k b o e) fun hm => by rw [hn b hm] at e; cases e
theorem hide_fr {h h' : Heap} {ts : List Addr} {L : Addr} {m : Str → Option Value} (F : Fr h L h' m) : Fr (hideAll h ts) L h' m := ⟨F.ns, fun b o e => F.keep b o (of_hideAll _ e), Nat.le_trans (Nat.le_of_eq (hideAll_size _ _)) F.above⟩
/-- the part of the heap that no call changes -/
structure Ghost (K : Frag) (p : Program) (loose : List Str) (mean : ExcName → Option Value) (mg mb : Str → Option Value) (G : Heap) : Prop where
  X : K.In G
  T : Top p loose mean mg mb G
  C1 : CodeHd G 76 72
  C2 : CodeHd G 93 89
  n1 : G.get? 72 = none
  n2 : G.get? 89 = none
def TabOk (h : Heap) (P : Addr) : Prop := ∃ ps, h.get? P = some (tabObj ps) ∧ TriplesOk ps.toList
/-- where a call stands: all of the ghost, and the two tables -/
structure Sits (G h : Heap) : Prop where
  k : Kp G h
  t1 : TabOk h 72
  t2 : TabOk h 89
/-- all that stood still stands, the two tables apart -/
def Kp2 (h h' : Heap) : Prop := ∀ b o, b ≠ 72 → b ≠ 89 → h.get? b = some o → h'.get? b = some o
theorem Kp.two {h h' : Heap} (k : Kp h h') : Kp2 h h' := fun b o _ _ e => k b o e
theorem Kp2.trans {a b c : Heap} (x : Kp2 a b) (y : Kp2 b c) : Kp2 a c := fun d o h1 h2 e => y d o h1 h2 (x d o h1 h2 e)
theorem Sits.kp {G h h' : Heap} (S : Sits G h) (k : Kp h h') : Sits G h' := ⟨fun b o e => k b o (S.k b o e), let ⟨ps, a, b⟩ := S.t1; ⟨ps, k _ _ a, b⟩, let ⟨ps, a, b⟩ := S.t2; ⟨ps, k _ _ a, b⟩⟩
section
variable {K : Frag} {p : Program} {loose : List Str} {mean : ExcName → Option Value} {mg mb : Str → Option Value} {G h h' : Heap} {A : Around} {n : Nat}
theorem Ghost.kp2 (g : Ghost K p loose mean mg mb G) (k : Kp G h) (k2 : Kp2 h h') : Kp G h' := fun b o e => k2 b o (fun q => by rw [q, g.n1] at e; cases e) (fun q => by rw [q, g.n2] at e; cases e) (k b o e)
theorem Ghost.ready (g : Ghost K p loose mean mg mb G) (k : Kp G h) (R : Ready K p loose mean mg mb A n h') : Ready K p loose mean mg mb A n h := ⟨g.X.keeps k, g.T.keeps k, R.dep, R.un, R.hh⟩
end
end Mine
end
section
open PySem PySem.W PyProof.Rows PySem.Calls
set_option maxRecDepth 100000
set_option linter.unusedSimpArgs false
set_option linter.unusedVariables false
namespace Mine
/-! the rows, and how they are written -/
abbrev Pr := List Nat × Option (List Nat)
def bareV (v : List Nat) : Bool := v.all bareC
def pairText : Pr → List Nat
  | (k, none) => k
  | (k, some v) => if bareV v = true then k ++ 61 :: v else k ++ 61 :: 34 :: (v ++ [34])
def restRow : List Pr → List Nat
  | [] => []
  | p :: r => 59 :: 32 :: (pairText p ++ restRow r)
def rowText : List Pr → List Nat
  | [] => []
  | p :: r => pairText p ++ restRow r
def restRows : List (List Pr) → List Nat
  | [] => []
  | r :: rs => 44 :: 32 :: (rowText r ++ restRows rs)
def headText : List (List Pr) → List Nat
  | [] => []
  | r :: rs => rowText r ++ restRows rs
structure GoodP (p : Pr) : Prop where
  k0 : p.1 ≠ []
  kc : ∀ c ∈ p.1, letC c = true
  v : ∀ v, p.2 = some v → v ≠ [] ∧ ∀ c ∈ v, goodC c = true
def GoodR (r : List Pr) : Prop := r ≠ [] ∧ ∀ p ∈ r, GoodP p
def txt (l : List Nat) : Str := ⟨l.toArray⟩
theorem txt_cps (l : List Nat) : (txt l).cps = l.toArray := rfl
theorem txt_size (l : List Nat) : (txt l).cps.size = l.length := by simp [txt]
theorem txt_len (l : List Nat) : (txt l).length = l.length := by show l.toArray.size = _; simp
def pairDat (p : Pr) : Dat := .tuple [.str (txt p.1), match p.2 with | none => .none | some v => .str (txt v)]
def rowDat (r : List Pr) : Dat := .list (r.map pairDat)
/-- what is left to read, and what is read so far -/
inductive Todo (target done : List (List Pr)) (cur : List Pr) : List Nat → Prop
  | «at» (b : List Nat) (p : Pr) (ps : List Pr) (rs : List (List Pr)) : (b = [] ∨ b = [32]) → target = done ++ (cur ++ p :: ps) :: rs → GoodP p → (∀ q ∈ ps, GoodP q) → (∀ r ∈ rs, GoodR r) → Todo target done cur (b ++ (pairText p ++ (restRow ps ++ restRows rs)))
  | after (ps : List Pr) (rs : List (List Pr)) : cur ≠ [] → target = done ++ (cur ++ ps) :: rs → (∀ q ∈ ps, GoodP q) → (∀ r ∈ rs, GoodR r) → Todo target done cur (restRow ps ++ restRows rs)
theorem todo_start {t : List (List Pr)} (ht : t ≠ []) (hg : ∀ r ∈ t, GoodR r) : Todo t [] [] (headText t) := by
  cases t with
  | nil => exact absurd rfl ht
  | cons r rs =>
    obtain ⟨h0, hr⟩ := hg r (.head _)
    cases r with
    | nil => exact absurd rfl h0
    | cons p ps =>
      have := Todo.at (target := (p :: ps) :: rs) (done := []) (cur := []) [] p ps rs (.inl rfl) rfl (hr p (.head _)) (fun q hq => hr q (.tail _ hq)) fun r hr' => hg r (.tail _ hr')
      simpa [headText, rowText] using this
/-- what stands behind a pair: nothing, or a mark -/
theorem behind (ps : List Pr) (rs : List (List Pr)) : restRow ps ++ restRows rs = [] ∨ ∃ c r', restRow ps ++ restRows rs = c :: r' ∧ (c = 59 ∨ c = 44) := by
  cases ps with
  | cons p ps => exact .inr ⟨59, _, rfl, .inl rfl⟩
  | nil =>
    cases rs with
    | nil => exact .inl rfl
    | cons r rs => exact .inr ⟨44, _, rfl, .inr rfl⟩
end Mine
end
section
open PySem PySem.W PyProof.Rows PySem.Calls
set_option maxRecDepth 100000
set_option linter.unusedSimpArgs false
set_option linter.unusedVariables false
namespace Mine
/-- how a text that is left to read lies: at a name, at a mark between pairs, at a mark between rows, at its end -/
inductive Shape (target done : List (List Pr)) (cur : List Pr) (x : List Nat) : Prop
  | quoted (b k v tl : List Nat) : (b = [] ∨ b = [32]) → k ≠ [] → (∀ c ∈ k, letC c = true) → (∀ c ∈ v, goodC c = true) → v ≠ [] → x = b ++ (k ++ (61 :: 34 :: (v ++ 34 :: tl))) → Todo target done (cur ++ [(k, some v)]) tl → Shape target done cur x
  | bare (b k v tl : List Nat) : (b = [] ∨ b = [32]) → k ≠ [] → (∀ c ∈ k, letC c = true) → (∀ c ∈ v, bareC c = true) → v ≠ [] → x = b ++ (k ++ (61 :: (v ++ tl))) → (tl = [] ∨ ∃ c r', tl = c :: r' ∧ (c = 59 ∨ c = 44)) → Todo target done (cur ++ [(k, some v)]) tl → Shape target done cur x
  | alone (b k tl : List Nat) : (b = [] ∨ b = [32]) → k ≠ [] → (∀ c ∈ k, letC c = true) → x = b ++ (k ++ tl) → (tl = [] ∨ ∃ c r', tl = c :: r' ∧ (c = 59 ∨ c = 44)) → Todo target done (cur ++ [(k, none)]) tl → Shape target done cur x
  | pair (c : Nat) (tl : List Nat) : letC c = true → x = 59 :: 32 :: c :: tl → Todo target done cur (c :: tl) → Shape target done cur x
  | row (tl : List Nat) : x = 44 :: tl → cur ≠ [] → Todo target (done ++ [cur]) [] tl → Shape target done cur x
  | over : x = [] → cur ≠ [] → target = done ++ [cur] → Shape target done cur x
theorem all_of {v : List Nat} (h : bareV v = true) : ∀ c ∈ v, bareC c = true := fun c hc => List.all_eq_true.mp h c hc
theorem first_letter {p : Pr} (g : GoodP p) (r : List Nat) : ∃ c tl, pairText p ++ r = c :: tl ∧ letC c = true := by
  obtain ⟨k, vo⟩ := p
  have hk := g.k0
  have hkc := g.kc
  cases k with
  | nil => exact absurd rfl hk
  | cons c k =>
    cases vo with
    | none => exact ⟨c, k ++ r, rfl, hkc c (.head _)⟩
    | some v =>
      unfold pairText
      dsimp only
      by_cases hb : bareV v = true
      · rw [if_pos hb]; exact ⟨c, _, rfl, hkc c (.head _)⟩
      · rw [if_neg hb]; exact ⟨c, _, rfl, hkc c (.head _)⟩
theorem Todo.shape {target done : List (List Pr)} {cur : List Pr} {x : List Nat} (h : Todo target done cur x) : Shape target done cur x := by
  cases h with
  | «at» b p ps rs hb ht hp hps hrs =>
    obtain ⟨k, vo⟩ := p
    have nx : Todo target done (cur ++ [(k, vo)]) (restRow ps ++ restRows rs) := by
      refine .after ps rs (by simp) ?_ hps hrs
      rw [ht]; simp
    cases vo with
    | none => exact .alone b k _ hb hp.k0 hp.kc rfl (behind ps rs) nx
    | some v =>
      obtain ⟨hv0, hvc⟩ := hp.v v rfl
      by_cases hbv : bareV v = true
      · refine .bare b k v _ hb hp.k0 hp.kc (all_of hbv) hv0 ?_ (behind ps rs) nx
        show b ++ ((if bareV v = true then _ else _) ++ _) = _
        rw [if_pos hbv]; simp
      · refine .quoted b k v _ hb hp.k0 hp.kc hvc hv0 ?_ nx
        show b ++ ((if bareV v = true then _ else _) ++ _) = _
        rw [if_neg hbv]; simp
  | after ps rs hc ht hps hrs =>
    cases ps with
    | cons q ps =>
      obtain ⟨c, tl, e, hl⟩ := first_letter (hps q (.head _)) (restRow ps ++ restRows rs)
      refine .pair c tl hl ?_ ?_
      · show 59 :: 32 :: (pairText q ++ restRow ps) ++ restRows rs = _
        rw [← e]; simp
      · rw [← e]
        exact Todo.at [] q ps rs (.inl rfl) ht (hps q (.head _)) (fun p hp => hps p (.tail _ hp)) hrs
    | nil =>
      cases rs with
      | nil => exact .over rfl hc (by simpa using ht)
      | cons r rs =>
        obtain ⟨hr0, hrp⟩ := hrs r (.head _)
        cases r with
        | nil => exact absurd rfl hr0
        | cons p ps =>
          refine .row (32 :: (rowText (p :: ps) ++ restRows rs)) rfl hc ?_
          have := Todo.at (target := target) (done := done ++ [cur]) (cur := []) [32] p ps rs (.inr rfl) (by rw [ht]; simp) (hrp p (.head _)) (fun q hq => hrp q (.tail _ hq)) fun r hr => hrs r (.tail _ hr)
          simpa [rowText] using this
section
variable {prog : Program} {w : World} {A : Around} {E : Value → Shared → Prop} {s : Shared} {g₀ : Heap} {L : Addr} {m : Str → Option Value} {news : List (Addr × Obj)} {Q : Value → Shared → Prop}
theorem tru_txt {l : List Nat} {t : Tok} {Q : Bool → Shared → Prop} (h0 : l ≠ []) (hl : l.length ≤ 1000000) (h : ∀ k, Q true { s with toks := k }) : wpAny (model prog w) A (truthy (.str (txt l) t)) Q E s :=
  KXt.truthy_pos (K := 1000000) (by rw [txt_len]; exact List.length_pos_iff.mpr h0) (by rw [txt_len]; exact hl) (by decide) h
theorem fal_txt {l : List Nat} {t : Tok} {Q : Bool → Shared → Prop} (h0 : l = []) (h : ∀ k, Q false { s with toks := k }) : wpAny (model prog w) A (truthy (.str (txt l) t)) Q E s := by
  subst h0
  exact KXt.truthy (by decide) (by decide) h
theorem group_is {a P tp : Addr} {x : Str} {t u : Tok} {lim st hd b e : Nat} {li : Int} {y : Str} (ho : s.heap.get? a = some (matchObj P x t lim li tp)) (hs : s.heap.get? tp = some (spanObj [(st : Int), hd, b, e])) (hx : x.cps.size < 2 ^ 24) (hy : (⟨x.cps.extract b e⟩ : Str) = y)
    (h : Q (.str y s.toks) { s with toks := s.toks + 1 }) :
    wpAny (model prog w) A (call (.builtin "re.Match.group") [.ref a, .int 1 u]) Q E s := by
  subst hy
  exact group1 ho hs hx h
/-- the part of a text between two places -/
theorem part_of (a k r : List Nat) : (⟨(txt (a ++ (k ++ r))).cps.extract a.length (a.length + k.length)⟩ : Str) = txt k := by
  show (⟨(a ++ (k ++ r)).toArray.extract a.length (a.length + k.length)⟩ : Str) = txt k
  unfold txt
  congr 1
  rw [List.extract_toArray]
  congr 1
  simp [List.extract_eq_drop_take]
theorem drop_of (a k r : List Nat) : (txt (a ++ (k ++ r))).cps.toList.drop (a.length + k.length) = r := by
  show (a ++ (k ++ r)).toArray.toList.drop _ = r
  simp [List.drop_append]
end
end Mine
end
section
open PySem PySem.W PyProof.Rows PySem.Calls
set_option maxRecDepth 100000
set_option linter.unusedSimpArgs false
set_option linter.unusedVariables false
namespace Mine
theorem off {l : OpenLaw} {K : Params → Frag} {P : Prop} (h : On l K P) : P := h
theorem frBut {B h h' : Heap} {L P : Addr} {m : Str → Option Value} (F : Fr B L h m) (k : ∀ b o, b ≠ P → h.get? b = some o → h'.get? b = some o) (hB : B.get? P = none) (hL : L ≠ P) : Fr B L h' m :=
  ⟨F.ns.at' fun o e => k _ o hL e, fun b o e => k b o (fun q => by rw [q, hB] at e; cases e) (F.keep b o e), F.above⟩
theorem newsBut {B h h' : Heap} {L P : Addr} {o : Obj} {big small : List (Addr × Obj)} (N : News B L h big) (k : ∀ b o, b ≠ P → h.get? b = some o → h'.get? b = some o) (hP : h'.get? P = some o) (hB : B.get? P = none) (hL : L ≠ P)
    (hs : ∀ q ∈ small, q ∈ big ∧ q.1 ≠ P) : News B L h' ((P, o) :: small) := fun q hq => by
  rcases List.mem_cons.mp hq with rfl | hq
  · exact ⟨hP, Ne.symm hL, hB⟩
  · obtain ⟨a, b⟩ := hs q hq
    exact ⟨k _ _ b (N q a).1, (N q a).2⟩
theorem newsAdd {B h : Heap} {L a : Addr} {o : Obj} {m : Str → Option Value} {news : List (Addr × Obj)} (F : Fr B L h m) (N : News B L h news) (ho : h.get? a = some o) (ha : L < a) : News B L h ((a, o) :: news) := fun q hq => by
  rcases List.mem_cons.mp hq with rfl | hq
  · exact ⟨ho, Nat.ne_of_gt ha, Heap.get?_none_of_le (Nat.le_trans F.above (Nat.le_of_lt ha))⟩
  · exact N q hq
theorem newsSub {B h : Heap} {L : Addr} {big small : List (Addr × Obj)} (N : News B L h big) (hs : ∀ q ∈ small, q ∈ big) : News B L h small := fun q hq => N q (hs q hq)
theorem allLt_all {d : Nat} : ∀ {l : List (Addr × Obj)}, AllLt d l → ∀ q ∈ l, q.1 < d
  | [], _, _, h => nomatch h
  | p :: l, h, q, hq => by
    rcases List.mem_cons.mp hq with rfl | hq
    · exact h.1
    · exact allLt_all h.2 q hq
theorem regroup4 {B h : Heap} {L : Addr} {x1 x2 x3 x4 : Addr × Obj} {made own : List (Addr × Obj)} (N : News B L h (x1 :: x2 :: x3 :: x4 :: (made ++ own))) : News B L h (x3 :: x4 :: x2 :: ((x1 :: made) ++ own)) := newsSub N (by
  intro q hq
  simp only [List.mem_cons, List.mem_append, List.cons_append] at hq ⊢
  rcases hq with h | h | h | h | h
  · exact .inr (.inr (.inl h))
  · exact .inr (.inr (.inr (.inl h)))
  · exact .inr (.inl h)
  · exact .inl h
  · exact .inr (.inr (.inr (.inr h))))
end Mine
end
section
open PySem PySem.W PyProof.Rows PySem.Calls
set_option maxRecDepth 100000
set_option linter.unusedSimpArgs false
set_option linter.unusedVariables false
namespace Mine
theorem sub_all (x : Str) : Builtin.Str.strSub x 0 x.length = x := by
  obtain ⟨a⟩ := x
  show (⟨a.extract 0 a.size⟩ : Str) = _
  simp
theorem no_space : ∀ c, c < 128 → (goodC c || c == 44 || c == 59) = true → Unicode.isSpace c = false := by decide +kernel
theorem rstrip_bare {v : List Nat} (hv0 : v ≠ []) (hv : ∀ c ∈ v, bareC c = true) : Txt.rstrip (txt v) = txt v := by
  obtain ⟨_, h0, h1, h2⟩ := hi_facts Unicode.isSpace (txt v) 0 (Nat.zero_le _)
  have hr : Txt.rstrip (txt v) = Builtin.Str.strSub (txt v) 0 (stripHi Unicode.isSpace true (txt v) 0) := by unfold Txt.rstrip; rw [PyProof.Rows.stripBy_eq]; rfl
  have hl : 0 < v.length := List.length_pos_iff.mpr hv0
  have hfull : stripHi Unicode.isSpace true (txt v) 0 = (txt v).length := by
    rcases Nat.lt_or_ge (stripHi Unicode.isSpace true (txt v) 0) (txt v).length with hlt | hge
    · exfalso
      have hk := h1 ((txt v).length - 1) (by omega) (by rw [txt_len]; omega)
      have hm : (txt v).cps.getD ((txt v).length - 1) 0 ∈ v := by
        rw [txt_cps, getD_list, txt_len]
        exact getD_mem (by omega)
      have := no_space _ (lt_of_good (good_of_bare (hv _ hm))) (by rw [good_of_bare (hv _ hm)]; rfl)
      rw [this] at hk; cases hk
    · omega
  rw [hr, hfull]
  exact sub_all _
theorem lstrip_mark {c : Nat} {r : List Nat} (hc : Unicode.isSpace c = false) : Txt.lstrip (txt (c :: r)) = txt (c :: r) := by
  obtain ⟨h0, h1, h2⟩ := lo_facts Unicode.isSpace (txt (c :: r))
  have hr : Txt.lstrip (txt (c :: r)) = Builtin.Str.strSub (txt (c :: r)) (stripLo Unicode.isSpace true (txt (c :: r))) (txt (c :: r)).length := by unfold Txt.lstrip; rw [PyProof.Rows.stripBy_eq]; rfl
  have hz : stripLo Unicode.isSpace true (txt (c :: r)) = 0 := by
    rcases Nat.eq_zero_or_pos (stripLo Unicode.isSpace true (txt (c :: r))) with h | h
    · exact h
    · exfalso
      have hk := h1 0 h
      have e : (txt (c :: r)).cps.getD 0 0 = c := rfl
      rw [e, hc] at hk; cases hk
  rw [hr, hz]
  exact sub_all _
theorem starts_comma {r : List Nat} : Txt.startswith (txt (44 :: r)) (Str.ofString ",") = true := by
  unfold Txt.startswith
  have e : (Str.ofString ",") = ⟨#[44]⟩ := by decide +kernel
  rw [e]
  simp only [Bool.and_eq_true, decide_eq_true_eq]
  refine ⟨?_, ?_⟩
  · rw [txt_len]; show 0 + 1 ≤ _; simp
  · unfold Builtin.Str.subAt
    show ((44 :: r).toArray.extract 0 (0 + 1) == #[44]) = true
    simp
theorem starts_no {c : Nat} {r : List Nat} (hc : c ≠ 44) : Txt.startswith (txt (c :: r)) (Str.ofString ",") = false := by
  unfold Txt.startswith
  have e : (Str.ofString ",") = ⟨#[44]⟩ := by decide +kernel
  rw [e]
  have : Builtin.Str.subAt (txt (c :: r)) ⟨#[44]⟩ 0 = false := by
    unfold Builtin.Str.subAt
    show ((c :: r).toArray.extract 0 (0 + 1) == #[44]) = false
    simp [hc]
  rw [this, Bool.and_false]
theorem cut_first {c : Nat} {r : List Nat} : Txt.slice (txt (c :: r)) (some (1 : Int)) none = txt r := by
  have := cut_from (x := txt (c :: r)) (e := 1) (by rw [txt_size]; simp)
  exact this.trans rfl
theorem regroup8 {B h : Heap} {L : Addr} {x1 a b c d x2 x3 x4 : Addr × Obj} {made own : List (Addr × Obj)} (N : News B L h (x1 :: a :: b :: c :: d :: x3 :: x4 :: x2 :: (made ++ own))) : News B L h (x3 :: x4 :: x2 :: ((x1 :: made) ++ own)) := newsSub N (by
  intro q hq
  simp only [List.mem_cons, List.mem_append, List.cons_append] at hq ⊢
  rcases hq with h | h | h | h | h
  · exact .inr (.inr (.inr (.inr (.inr (.inl h)))))
  · exact .inr (.inr (.inr (.inr (.inr (.inr (.inl h))))))
  · exact .inr (.inr (.inr (.inr (.inr (.inr (.inr (.inl h)))))))
  · exact .inl h
  · exact .inr (.inr (.inr (.inr (.inr (.inr (.inr (.inr h))))))))
theorem regroup6 {B h : Heap} {L : Addr} {x1 a b x2 x3 x4 : Addr × Obj} {made own : List (Addr × Obj)} (N : News B L h (x1 :: a :: b :: x3 :: x4 :: x2 :: (made ++ own))) : News B L h (x3 :: x4 :: x2 :: ((x1 :: made) ++ own)) := newsSub N (by
  intro q hq
  simp only [List.mem_cons, List.mem_append, List.cons_append] at hq ⊢
  rcases hq with h | h | h | h | h
  · exact .inr (.inr (.inr (.inl h)))
  · exact .inr (.inr (.inr (.inr (.inl h))))
  · exact .inr (.inr (.inr (.inr (.inr (.inl h)))))
  · exact .inl h
  · exact .inr (.inr (.inr (.inr (.inr (.inr h))))))
theorem regroup2 {B h : Heap} {L : Addr} {x1 x2 x3 : Addr × Obj} {made own : List (Addr × Obj)} (N : News B L h (x1 :: x2 :: x3 :: (made ++ own))) : News B L h (x2 :: x3 :: ((x1 :: made) ++ own)) := newsSub N (by
  intro q hq
  simp only [List.mem_cons, List.mem_append, List.cons_append] at hq ⊢
  rcases hq with h | h | h | h
  · exact .inr (.inl h)
  · exact .inr (.inr (.inl h))
  · exact .inl h
  · exact .inr (.inr (.inr h)))
theorem truthy_toArray {l : List Value} (h : 0 < l.length) : (!(List.toArray l).isEmpty) = true := by
  cases l with
  | nil => cases h
  | cons a l => simp
end Mine
end
section
open PySem PySem.W PyProof.Rows PySem.Calls
set_option maxRecDepth 100000
set_option maxHeartbeats 0
set_option linter.unusedSimpArgs false
set_option linter.unusedVariables false
namespace Mine
theorem flatten_take_le {α : Type} : ∀ (l : List (List α)) (i : Nat), (l.take i).flatten.length ≤ l.flatten.length
  | [], _ => by simp
  | _ :: _, 0 => by simp
  | a :: l, i + 1 => by
    have := flatten_take_le l i
    simp only [List.take_succ_cons, List.flatten_cons, List.length_append]
    omega
theorem canon3 {m : Str → Option Value} {a b c : Str} {x y z : Value} (h1 : m a = some x) (h2 : m b = some y) (h3 : m c = some z) : m = fun k => if k = a then some x else if k = b then some y else if k = c then some z else m k := by
  funext k
  by_cases e1 : k = a
  · rw [if_pos e1, e1, h1]
  · rw [if_neg e1]
    by_cases e2 : k = b
    · rw [if_pos e2, e2, h2]
    · rw [if_neg e2]
      by_cases e3 : k = c
      · rw [if_pos e3, e3, h3]
      · rw [if_neg e3]
theorem canon1 {m : Str → Option Value} {a : Str} {x : Value} (h1 : m a = some x) : m = fun k => if k = a then some x else m k := by
  funext k
  by_cases e1 : k = a
  · rw [if_pos e1, e1, h1]
  · rw [if_neg e1]
theorem datAdd {made : List (Addr × Obj)} {rits pits : List Value} {pa : Addr} {np : Nat} {l : List (List Pr)} {cur : List Pr} (hD : DatAll made rits (l.map rowDat)) (hDp : DatAll made pits (cur.map pairDat)) : DatAll ((pa, W.listOf (List.toArray pits) np) :: made) (rits ++ [.ref pa]) ((l ++ [cur]).map rowDat) := by
  rw [List.map_append]
  refine (hD.mono fun q hq => .tail _ hq).append (.one ?_)
  exact .list (.head _) (hDp.mono fun q hq => .tail _ hq)
theorem take_flat {α : Type} {l : List (List α)} {i : Nat} {x : List α} (h : l[i]? = some x) : (l.take (i + 1)).flatten = (l.take i).flatten ++ x := by
  rw [List.take_add_one, h]; simp
theorem StrsAre.at' {vs : List Value} {ys : List Str} (h : StrsAre vs ys) : ∀ {i : Nat} {v : Value}, vs[i]? = some v → ∃ y t, ys[i]? = some y ∧ v = .str y t := by
  induction h with
  | nil => intro i v e; cases e
  | cons y t h ih =>
    intro i v e
    cases i with
    | zero => cases e; exact ⟨y, t, rfl, rfl⟩
    | succ i => exact ih (by simpa using e)
theorem DatAll.at' {α : Type} {made : List (Addr × Obj)} {f : α → Dat} : ∀ {vs : List Value} {l : List α}, DatAll made vs (l.map f) → ∀ {i : Nat} {v : Value}, vs[i]? = some v → ∃ a, l[i]? = some a ∧ DatIn made v (f a)
  | _, [], h, i, v, e => by cases h; cases e
  | _, a :: l, h, i, v, e => by
    cases h with
    | cons h r =>
      cases i with
      | zero => cases e; exact ⟨a, rfl, h⟩
      | succ i => exact DatAll.at' r (by simpa using e)
theorem datList {made : List (Addr × Obj)} {v : Value} {ds : List Dat} (h : DatIn made v (.list ds)) : ∃ a vs n, v = .ref a ∧ (a, W.listOf (List.toArray vs) n) ∈ made ∧ DatAll made vs ds := by
  cases h with
  | list a b => exact ⟨_, _, _, rfl, a, b⟩
theorem dTup {made : List (Addr × Obj)} {v : Value} {ds : List Dat} (h : DatIn made v (.tuple ds)) : ∃ a vs n, v = .ref a ∧ (a, ({ cls := .type "tuple", data := .seq (List.toArray vs) n } : Obj)) ∈ made ∧ DatAll made vs ds := by
  cases h with
  | tuple a b => exact ⟨_, _, _, rfl, a, b⟩
theorem dCons {made : List (Addr × Obj)} {vs : List Value} {d : Dat} {ds : List Dat} (h : DatAll made vs (d :: ds)) : ∃ v vs', vs = v :: vs' ∧ DatIn made v d ∧ DatAll made vs' ds := by
  cases h with
  | cons a b => exact ⟨_, _, rfl, a, b⟩
theorem dNil {made : List (Addr × Obj)} {vs : List Value} (h : DatAll made vs []) : vs = [] := by
  cases h; rfl
theorem dStr {made : List (Addr × Obj)} {v : Value} {x : Str} (h : DatIn made v (.str x)) : ∃ t, v = .str x t := by
  cases h; exact ⟨_, rfl⟩
theorem dNone {made : List (Addr × Obj)} {v : Value} (h : DatIn made v .none) : v = .none := by
  cases h; rfl
theorem datPair {made : List (Addr × Obj)} {v : Value} {p : Pr} (h : DatIn made v (pairDat p)) : ∃ a t x n, v = .ref a ∧ (a, ({ cls := .type "tuple", data := .seq #[.str (txt p.1) t, x] n } : Obj)) ∈ made ∧ (p.2 = none → x = .none) ∧ ∀ y, p.2 = some y → ∃ u, x = .str (txt y) u := by
  obtain ⟨k, o⟩ := p
  obtain ⟨a, vs, n, hv, hm, hA⟩ := dTup h
  obtain ⟨x1, vs1, rfl, hx1, hA⟩ := dCons hA
  obtain ⟨x2, vs2, rfl, hx2, hA⟩ := dCons hA
  obtain rfl := dNil hA
  obtain ⟨t, rfl⟩ := dStr hx1
  refine ⟨a, t, x2, n, hv, hm, fun e => ?_, fun y e => ?_⟩
  · have e : o = none := e
    subst e
    exact dNone hx2
  · have e : o = some y := e
    subst e
    exact dStr hx2
theorem canon2 {m : Str → Option Value} {a b : Str} {x y : Value} (h1 : m a = some x) (h2 : m b = some y) : m = fun k => if k = a then some x else if k = b then some y else m k := by
  funext k
  by_cases e1 : k = a
  · rw [if_pos e1, e1, h1]
  · rw [if_neg e1]
    by_cases e2 : k = b
    · rw [if_pos e2, e2, h2]
    · rw [if_neg e2]
theorem txt_cat (a b : List Nat) : txt a ++ txt b = txt (a ++ b) := by
  show (⟨a.toArray ++ b.toArray⟩ : Str) = ⟨(a ++ b).toArray⟩
  simp
theorem empty_txt : Str.empty = txt [] := rfl
theorem eq_txt : Str.ofString "=" = txt [61] := by decide +kernel
theorem quo_txt : Str.ofString "\"" = txt [34] := by decide +kernel
theorem firstBad : ∀ (v : List Nat), ¬ bareV v = true → ∃ a c r', v = a ++ c :: r' ∧ (∀ c ∈ a, bareC c = true) ∧ bareC c = false
  | [], h => absurd rfl h
  | x :: v, h => by
    cases hx : bareC x with
    | false => exact ⟨[], x, v, rfl, (fun _ h => nomatch h), hx⟩
    | true =>
      obtain ⟨a, c, r', e, h1, h2⟩ := firstBad v (fun h' => h (by simp only [bareV, List.all_cons, hx, Bool.true_and]; exact h'))
      refine ⟨x :: a, c, r', by rw [e]; rfl, List.forall_mem_cons.mpr ⟨hx, h1⟩, h2⟩
theorem regroup3 {B h : Heap} {L : Addr} {x1 x2 x3 : Addr × Obj} {r : List (Addr × Obj)} (N : News B L h (x1 :: x2 :: x3 :: r)) : News B L h (x2 :: x3 :: x1 :: r) := newsSub N (by
  intro q hq
  simp only [List.mem_cons] at hq ⊢
  rcases hq with h | h | h | h
  · exact .inr (.inl h)
  · exact .inr (.inr (.inl h))
  · exact .inl h
  · exact .inr (.inr (.inr h)))
def joinL (sep : List Nat) : List (List Nat) → List Nat
  | [] => []
  | x :: r => x ++ (r.map fun y => sep ++ y).flatten
theorem join_txt (sep : List Nat) : ∀ l : List (List Nat), Str.join (txt sep) (l.map txt) = txt (joinL sep l)
  | [] => rfl
  | [x] => by simp [joinL, Str.join]
  | x :: y :: r => by
    have ih := join_txt sep (y :: r)
    rw [List.map_cons, List.map_cons] at *
    rw [Str.join]
    · rw [ih, txt_cat, txt_cat]
      simp [joinL]
    · intro h; cases h
theorem join_is (sep : Str) (sl : List Nat) (hs : sep = txt sl) (l : List (List Nat)) : Txt.join sep (l.map txt) = txt (joinL sl l) := by
  rw [hs]
  show Builtin.Str.glued _ _ = _
  rw [StrLaws.glued_eq_join, join_txt]
theorem restRow_is : ∀ r : List Pr, restRow r = ((r.map pairText).map fun y => [59, 32] ++ y).flatten
  | [] => rfl
  | p :: r => by simp [restRow, restRow_is r]
theorem rowText_is (r : List Pr) : joinL [59, 32] (r.map pairText) = rowText r := by
  cases r with
  | nil => rfl
  | cons p r => simp [joinL, rowText, restRow_is]
theorem restRows_is : ∀ r : List (List Pr), restRows r = ((r.map rowText).map fun y => [44, 32] ++ y).flatten
  | [] => rfl
  | p :: r => by simp [restRows, restRows_is r]
theorem headText_is (r : List (List Pr)) : joinL [44, 32] (r.map rowText) = headText r := by
  cases r with
  | nil => rfl
  | cons p r => simp [joinL, headText, restRows_is]
theorem semi_txt : Str.ofString "; " = txt [59, 32] := by decide +kernel
theorem comma_txt : Str.ofString ", " = txt [44, 32] := by decide +kernel
theorem joinRow (r : List Pr) : Txt.join (Str.ofString "; ") (r.map fun p => txt (pairText p)) = txt (rowText r) := by
  rw [← rowText_is, ← join_is _ _ semi_txt, List.map_map]; rfl
theorem joinRows (r : List (List Pr)) : Txt.join (Str.ofString ", ") (r.map fun p => txt (rowText p)) = txt (headText r) := by
  rw [← headText_is, ← join_is _ _ comma_txt, List.map_map]; rfl
def SmallP (p : Pr) : Prop := p.1.length ≤ 16 ∧ ∀ v, p.2 = some v → v.length ≤ 16
theorem small_pair {p : Pr} (h : SmallP p) : (pairText p).length ≤ 40 := by
  obtain ⟨k, o⟩ := p
  obtain ⟨h1, h2⟩ := h
  cases o with
  | none => simp only [pairText]; simp only at h1; omega
  | some v =>
    have := h2 v rfl
    simp only at h1
    simp only [pairText]
    split <;> simp <;> omega
theorem small_rest : ∀ {r : List Pr}, (∀ p ∈ r, SmallP p) → (restRow r).length ≤ r.length * 42
  | [], _ => by simp [restRow]
  | p :: r, h => by
    have h1 := small_pair (h p (.head _))
    have h2 := small_rest (r := r) fun q hq => h q (.tail _ hq)
    simp [restRow]; omega
theorem small_row {r : List Pr} (h : ∀ p ∈ r, SmallP p) (hl : r.length ≤ 16) : (rowText r).length ≤ 700 := by
  cases r with
  | nil => simp [rowText]
  | cons p r =>
    have h1 := small_pair (h p (.head _))
    have h2 := small_rest (r := r) fun q hq => h q (.tail _ hq)
    simp at hl
    simp [rowText]; omega
end Mine
end
section
open PySem PySem.W PyProof.Rows
set_option maxRecDepth 100000
set_option linter.unusedSimpArgs false
set_option linter.unusedVariables false
namespace Mine
section
variable {prog : Program} {w : World} {A : Around} {s : Shared} {env : Env} {h₀ : Heap} {Q : Flow → Shared → Prop}
theorem go_list {elts : List Expr} {x1} {pos : Pos} {I l : Addr} {v : Value} {i : Nat} {Q : Unit → Shared → Prop} {E : Value → Shared → Prop} (hit : s.heap.IsListIter I l i) (hQ : Q () s) :
    wpAny (model prog w) A (letOwnedTupleGo (.Tuple elts x1 pos) (.ref I) v) Q E s := by
  cases v with
  | ref T => exact wpAny_letOwnedTupleGo_listiter hit hQ
  | _ => exact wpAny_pure hQ
theorem loopH {target : Expr} {body : List Stmt} {I : Addr} {fp wr : List Addr} {n : Nat} {P : Nat → Value → Prop} {St : Nat → Heap → Prop} {m : Str → Option Value} {news : List (Addr × Obj)}
    (W : Walks prog w A I fp wr n P St) (hLf : env.locals ∉ fp) (hwr : ∀ b ∈ wr, h₀.get? b = none) (hnw : ∀ p ∈ news, p.1 ∉ wr)
    (hst : St 0 s.heap) (F : Fr h₀ env.locals s.heap m) (N : News h₀ env.locals s.heap news)
    (J : Nat → (Str → Option Value) → List (Addr × Obj) → Prop) (h0 : J 0 m news)
    (step : ∀ i v m₁ news₁ h tk own, i < n → P i v → J i m₁ news₁ → (∀ p ∈ news₁, p.1 ∉ wr) → (∀ p ∈ own, p.1 ∈ fp) → (∀ b ∈ fp, h₀.get? b = none → ∀ o, h.get? b = some o → (b, o) ∈ own) → St (i + 1) h → Fr h₀ env.locals h m₁ → News h₀ env.locals h (own ++ news₁) →
      wpAny (model prog w) A (assign target env v) (fun _ s₁ => wpAny (model prog w) A (execs body env) (GPost h₀ env.locals wr own (J (i + 1)) s Q) NoE s₁) NoE { s with heap := h, toks := tk })
    (hR : ∀ h' tk m' news', Fr h₀ env.locals h' m' → News h₀ env.locals h' news' → (∀ p ∈ news', p.1 ∉ wr) → J n m' news' → Q .next { s with heap := h', toks := tk })
    (ht : ∀ i v s' (R : Unit → Shared → Prop) (E' : Value → Shared → Prop), St (i + 1) s'.heap → R () s' → wpAny (model prog w) A (letOwnedTupleGo target (.ref I) v) R E' s') :
    codeAny (model prog w) A (.forLoop target (.ref I) body [] env) (fun r s' => match r with | .ok f => Q f s' | .error e => cameBackBy (model prog w) A env NoE e s') s := by
  have hLw : env.locals ∉ wr := fun h => hLf (W.sub _ h)
  have old : ∀ b o, h₀.get? b = some o → b ∉ wr := fun b o e hb => by rw [hwr b hb] at e; cases e
  refine codeAny_forLoop_any
    (fun k s' => ∃ h' tk m' news' i, s' = { s with heap := h', toks := tk } ∧ St i h' ∧ Fr h₀ env.locals h' m' ∧ News h₀ env.locals h' news' ∧ (∀ p ∈ news', p.1 ∉ wr) ∧ J i m' news' ∧ i ≤ n ∧ k = n + 1 - i) ?_ (n + 1)
    ⟨s.heap, s.toks, m, news, 0, rfl, hst, F, N, hnw, h0, Nat.zero_le _, rfl⟩
  rintro k s' ⟨h', tk, m', news', i, rfl, hst', F', N', hnw', hJ, hi, rfl⟩
  have next : ∀ h₁ : Heap, (∀ b o, b ∉ wr → h'.get? b = some o → h₁.get? b = some o) → Fr h₀ env.locals h₁ m' ∧ News h₀ env.locals h₁ news' := fun h₁ hk₁ =>
    ⟨⟨F'.ns.at' fun o e => hk₁ _ o hLw e, fun b o e => hk₁ b o (old b o e) (F'.keep b o e), F'.above⟩, fun p hp => ⟨hk₁ _ _ (hnw' p hp) (N' p hp).1, (N' p hp).2⟩⟩
  by_cases hlt : i < n
  · refine W.item i _ _ _ hlt hst' fun v h₁ tk₁ hP hst₁ hk₁ => ?_
    obtain ⟨F₁, N₁⟩ := next h₁ hk₁
    have Nown : News h₀ env.locals h₁ (ownOf h₀ fp h₁) := news_ownOf hLf
    refine ht i v _ _ _ hst₁ ?_
    refine wpAny_mono (step i v m' news' h₁ tk₁ (ownOf h₀ fp h₁) hlt hP hJ hnw' ownOf_sub (fun b hb hn o e => mem_ownOf hb hn e) hst₁ F₁ (Nown.append N₁)) (fun _ s₂ h₂ => ?_) fun _ _ e => e.elim
    refine wpAny_mono h₂ (fun f s₃ h₃ => ?_) fun _ _ e => e.elim
    have fin : GEnd h₀ env.locals wr (ownOf h₀ fp h₁) (J (i + 1)) s s₃ → ∃ m, m < n + 1 - i ∧ ∃ h' tk m' news' j, s₃ = { s with heap := h', toks := tk } ∧ St j h' ∧ Fr h₀ env.locals h' m' ∧ News h₀ env.locals h' news' ∧ (∀ p ∈ news', p.1 ∉ wr) ∧ J j m' news' ∧ j ≤ n ∧ m = n + 1 - j := by
      rintro ⟨h₃', tk₃, m₂, news₂, rfl, F₃, N₃, ha₃, hJ₃⟩
      refine ⟨n + 1 - (i + 1), by omega, h₃', tk₃, m₂, news₂, i + 1, rfl, ?_, F₃, N₃.right, ha₃, hJ₃, hlt, rfl⟩
      refine W.frame _ _ _ hst₁ fun b hb o e => ?_
      cases hn : h₀.get? b with
      | some o₀ =>
        have : o₀ = o := by have := F₁.keep b o₀ hn; rw [e] at this; exact (Option.some.inj this).symm
        exact this ▸ F₃.keep b o₀ hn
      | none => exact (N₃ _ (List.mem_append_left _ (mem_ownOf hb hn e))).1
    cases f with
    | ret v => exact h₃
    | brk => exact h₃
    | cont => exact fin h₃
    | next => exact fin h₃
  · have hin : i = n := by omega
    subst hin
    refine W.done _ _ _ hst' fun h₁ tk₁ hk₁ => wpAny_execs_nil ?_
    obtain ⟨F₁, N₁⟩ := next h₁ hk₁
    exact hR h₁ tk₁ m' news' F₁ N₁ hnw' hJ
/-- the loop over a list -/
theorem iterH {target : Expr} {body : List Stmt} {l : Addr} {vs : List Value} {m : Str → Option Value} {news : List (Addr × Obj)} (hh : A.handled = none) (hl : s.heap.IsList l vs.toArray) (hL : l ≠ env.locals)
    (F : Fr h₀ env.locals s.heap m) (N : News h₀ env.locals s.heap news) (J : Nat → (Str → Option Value) → List (Addr × Obj) → Prop) (h0 : J 0 m news)
    (step : ∀ i v m₁ news₁ h tk I own, vs[i]? = some v → J i m₁ news₁ → (∀ p ∈ news, p.1 < I) → (∀ p ∈ news₁, p.1 ≠ I) → (∀ p ∈ own, p.1 = I ∨ p.1 = l) → (∃ it, (I, it) ∈ own) → Fr h₀ env.locals h m₁ → News h₀ env.locals h (own ++ news₁) →
      wpAny (model prog w) A (assign target env v) (fun _ s₁ => wpAny (model prog w) A (execs body env) (GPost h₀ env.locals [I] own (J (i + 1)) s Q) NoE s₁) NoE { s with heap := h, toks := tk })
    (hR : ∀ h' tk m' news', Fr h₀ env.locals h' m' → News h₀ env.locals h' news' → J vs.length m' news' → Q .next { s with heap := h', toks := tk })
    (ht : ∃ elts k pos, target = .Tuple elts k pos) :
    wpAny (model prog w) A (pyIter (.ref l)) (fun it s₂ => codeAny (model prog w) A (.forLoop target it body [] env) (fun r s' => match r with | .ok f => Q f s' | .error e => cameBackBy (model prog w) A env NoE e s') s₂) NoE s := by
  refine wpAny_pyIter_list hl ?_
  have hlt : l < s.heap.objs.size := by obtain ⟨o, ho, _⟩ := hl; exact Heap.lt_size ho
  have hne : l ≠ s.heap.objs.size := Nat.ne_of_lt hlt
  have W := Walks.list (prog := prog) (w := w) hh s.heap.objs.size l hne vs.toArray
  have hlen : vs.toArray.size = vs.length := by simp
  rw [hlen] at W
  have hnI : ∀ p ∈ news, p.1 < s.heap.objs.size := fun p hp => Heap.lt_size (N p hp).1
  refine loopH W (m := m) (news := news) ?_ ?_ ?_ ⟨⟨_, Heap.get?_push_size _ rfl, rfl, rfl⟩, hl.at fun o e => Heap.get?_push_of_some _ e⟩ (F.push _) (fun p hp => ⟨Heap.get?_push_of_some _ (N p hp).1, (N p hp).2⟩) J h0 ?_ ?_ ?_
  · intro hm
    rcases List.mem_cons.mp hm with e | hm
    · exact absurd F.ns.lt (e ▸ Nat.lt_irrefl _)
    · exact hL (List.mem_singleton.mp hm).symm
  · intro b hb
    rw [List.mem_singleton.mp hb]
    exact next_is_new F
  · intro p hp hI
    exact absurd (hnI p hp) ((List.mem_singleton.mp hI) ▸ Nat.lt_irrefl _)
  · intro i v m₁ news₁ h tk own hi hP hJ hoff hown hmem hst F₁ N₁
    obtain ⟨⟨oI, hoI, _⟩, _⟩ := hst
    exact step i v m₁ news₁ h tk s.heap.objs.size own (by simpa using hP) hJ hnI (fun p hp e => hoff p hp (by rw [e]; exact List.mem_singleton.mpr rfl)) (fun p hp => by
      rcases List.mem_cons.mp (hown p hp) with e | e
      · exact .inl e
      · exact .inr (List.mem_singleton.mp e)) ⟨oI, hmem _ (List.mem_cons_self ..) (next_is_new F) _ hoI⟩ F₁ N₁
  · intro h' tk m' news' F' N' _ hJ
    exact hR h' tk m' news' F' N' hJ
  · intro i v s' R E' hst hR'
    obtain ⟨elts, k, pos, rfl⟩ := ht
    exact go_list hst.1 hR'
end
end Mine
end
section
open PySem PySem.W PyProof.Rows
set_option maxRecDepth 100000
set_option maxHeartbeats 0
set_option rowWalk.seconds 0
set_option linter.unusedVariables false
namespace Mine
local macro_rules | `(tactic| cell_enter) => `(tactic| (refine' enter ?k1 ?k6 ?k7 ?k9 ?kB ?_ ?c2 ?c3 ?c4 ?c5; (case k1 => k_asm); (case k6 => k_is); (case k7 => k_is); (case k9 => exact BindsTo.of_eq rfl); (case c5 => decide); (case kB => exact locs rfl); (case c2 => exact rfl); (case c3 => exact rfl); (case c4 => exact rfl); intro dp9 fr9 gd9 un9 L9 h9 hA2 hA3 R9 F9 N9 X9 T9; (try dsimp only); (try k_fold)))
section
variable {w : World} {A : Around} {E : Value → Shared → Prop} {s : Shared} {p : Program} {loose : List Str} {mean : ExcName → Option Value} {mg mb : Str → Option Value} {Q : Value → Shared → Prop}
theorem c_S_IMODE {x : Int} {t : Tok} (R : Ready (Mine.hd.heap_1 w.params) p loose mean mg mb A 2 s.heap)
    (ret : ∀ t h' tk, Kp s.heap h' → Q (.int (Builtin.bitAnd x 4095) t) { s with heap := h', toks := tk }) :
    On PySem.Challenge.rw_qh0025_01 Mine.hd.heap_1 (wpAny (model prog w) A (call (.ref 182) [.int x t] ) Q E s) := by
  k_fill
  unfold On
  k_dflt cell_enter
  k_steps
  exact ret _ _ _ (Fr.keep (by assumption))
theorem c_S_IFMT {x : Int} {t : Tok} (R : Ready (Mine.hd.heap_1 w.params) p loose mean mg mb A 2 s.heap)
    (ret : ∀ t h' tk, Kp s.heap h' → Q (.int (Builtin.bitAnd x 61440) t) { s with heap := h', toks := tk }) :
    On PySem.Challenge.rw_qh0025_01 Mine.hd.heap_1 (wpAny (model prog w) A (call (.ref 189) [.int x t] ) Q E s) := by
  k_fill
  unfold On
  k_dflt cell_enter
  k_steps
  exact ret _ _ _ (Fr.keep (by assumption))
local macro_rules | `(tactic| walk_at "call ref") => `(tactic| (refine hold ?_))
def modeOf (x : Int) : Int := (if x.fmod 2 = 0 then 16384 else 32768) + (x.fdiv 2).fmod 4096
theorem c_S_ISDIR {x : Int} {t : Tok} (R : Ready (Mine.hd.heap_1 w.params) p loose mean mg mb A 3 s.heap)
    (ret : ∀ h' tk, Kp s.heap h' → Q (.bool (decide (Builtin.bitAnd x 61440 = 16384))) { s with heap := h', toks := tk }) :
    On PySem.Challenge.rw_qh0025_01 Mine.hd.heap_1 (wpAny (model prog w) A (call (.ref 196) [.int x t] ) Q E s) := by
  k_fill
  unfold On
  k_dflt (refine' enter (n := 2) R ?k6 ?k7 ?k9 ?kB ?_ ?c2 ?c3 ?c4 ?c5; (case k6 => k_is); (case k7 => k_is); (case k9 => exact BindsTo.of_eq rfl); (case c5 => decide); (case kB => exact locs rfl); (case c2 => exact rfl); (case c3 => exact rfl); (case c4 => exact rfl))
  intro dp fr gd un L h1 hdp hun R1 F0 N0 X0 T0
  (try dsimp only)
  k_steps
  refine unhold (off (c_S_IFMT  ((R1 _ (Fr.keep (by k_asm))).less (by omega)) fun t4 h4 tk4 k9 => ?_))
  rename Fr _ _ _ _ => F9
  rename News _ _ _ _ => N9
  replace F9 := frKp F9 k9
  replace N9 := newsKp N9 k9
  clear k9
  k_steps
  have e : (Builtin.bitAnd x 61440 == 16384) = decide (Builtin.bitAnd x 61440 = 16384) := rfl
  rw [e]; exact ret _ _ F9.keep
theorem c_law_mode {x : Int} {t : Tok} (R : Ready (Mine.hd.heap_1 w.params) p loose mean mg mb A 2 s.heap)
    (ret : ∀ t h' tk, Kp s.heap h' → Q (.int (modeOf x) t) { s with heap := h', toks := tk }) :
    On PySem.Challenge.rw_qh0025_01 Mine.hd.heap_1 (wpAny (model prog w) A (call (.ref 248) [.int x t] ) Q E s) := by
  k_fill
  unfold On
  k_dflt cell_enter
  k_steps
  · have e : modeOf x = 16384 + (x.fdiv 2).fmod 4096 := by rw [modeOf, if_pos (by assumption)]
    rw [e] at ret; exact ret _ _ _ (Fr.keep (by assumption))
  · have e : modeOf x = 32768 + (x.fdiv 2).fmod 4096 := by rw [modeOf, if_neg (by assumption)]
    rw [e] at ret; exact ret _ _ _ (Fr.keep (by assumption))
end
end Mine
end
section
open PySem PySem.W PyProof.Rows
set_option maxRecDepth 100000
set_option linter.unusedSimpArgs false
set_option linter.unusedVariables false
namespace Mine
section
variable {prog : Program} {w : World} {A : Around} {E : Value → Shared → Prop} {s : Shared}
theorem nextOf_tuple_item {it t : Addr} {i : Nat} {items : Array Value} {x : Value} {Q : Value → Shared → Prop} (hit : s.heap.IsTupleIter it t i)
    (ht : s.heap.IsTuple t items) (hx : items[i]? = some x)
    (hQ : ∀ h', h'.IsTupleIter it t (i + 1) → Heap.SameBut it s.heap h' → Q x { s with heap := h' }) :
    wpAny (model prog w) A (Builtin.SmallTypes.nextOf (.ref it)) Q E s := by
  obtain ⟨o, ho, hc, hd⟩ := id hit
  obtain ⟨ol, hol, _, nl, hdl⟩ := ht
  unfold Builtin.SmallTypes.nextOf
  refine wpAny_bind (wpAny_callSpecial?_slot (name := Str.ofString "__next__") hit.typeIs F.slot_tuple_iterator_next
    (wpAny_call_entry F.slot_tuple_iterator_next hit.typeIs F.entry_tuple_iterator_next ?_ (F.args_tuple_iterator_next_1 _)))
  show wpAny _ _ (field (.ref it) 0 >>= _) _ _ s
  refine wpAny_bind (wpAny_field ho hd (x := .ref t) rfl ?_)
  show wpAny _ _ (if (Value.ref t == Value.none) = true then _ else _) _ _ s
  rw [if_neg (show ¬ ((Value.ref t == Value.none) = true) from Bool.false_ne_true)]
  show wpAny _ _ (field (.ref it) 1 >>= _) _ _ s
  refine wpAny_bind (wpAny_field ho hd (x := .int i 0) rfl ?_)
  show wpAny _ _ (seqItems? (.ref t) >>= _) _ _ s
  refine wpAny_bind (wpAny_seqItems hol hdl ?_)
  simp only [Int.toNat_natCast, hx]
  refine wpAny_bind (wpAny_setField ho hd (by simp) (wpAny_pure ⟨x, rfl, wpAny_pure (hQ _ ?_ (Heap.SameBut.update ..))⟩))
  exact ⟨_, Heap.get?_update_self _ ho (Obj.isFreed_of_fields (Obj.data_mapFields hd _)), (Obj.cls_mapFields ..).trans hc, by
    rw [Obj.data_mapFields hd]; simp [rawInt]⟩
theorem nextOf_tuple_end {it t : Addr} {i : Nat} {items : Array Value} {Q : Value → Shared → Prop} (hh : A.handled = none)
    (hit : s.heap.IsTupleIter it t i) (ht : s.heap.IsTuple t items) (hx : items[i]? = none)
    (hE : ∀ h' e, Heap.ExtBut it s.heap h' → (∃ o, h'.get? e = some o ∧ o.cls = .type "StopIteration") → E (.ref e) { s with heap := h' }) :
    wpAny (model prog w) A (Builtin.SmallTypes.nextOf (.ref it)) Q E s := by
  obtain ⟨o, ho, hc, hd⟩ := id hit
  obtain ⟨ol, hol, _, nl, hdl⟩ := ht
  unfold Builtin.SmallTypes.nextOf
  refine wpAny_bind (wpAny_callSpecial?_slot (name := Str.ofString "__next__") hit.typeIs F.slot_tuple_iterator_next
    (wpAny_call_entry F.slot_tuple_iterator_next hit.typeIs F.entry_tuple_iterator_next ?_ (F.args_tuple_iterator_next_1 _)))
  show wpAny _ _ (field (.ref it) 0 >>= _) _ _ s
  refine wpAny_bind (wpAny_field ho hd (x := .ref t) rfl ?_)
  show wpAny _ _ (if (Value.ref t == Value.none) = true then _ else _) _ _ s
  rw [if_neg (show ¬ ((Value.ref t == Value.none) = true) from Bool.false_ne_true)]
  show wpAny _ _ (field (.ref it) 1 >>= _) _ _ s
  refine wpAny_bind (wpAny_field ho hd (x := .int i 0) rfl ?_)
  show wpAny _ _ (seqItems? (.ref t) >>= _) _ _ s
  refine wpAny_bind (wpAny_seqItems hol hdl ?_)
  simp only [Int.toNat_natCast, hx]
  refine wpAny_bind (wpAny_rule (wpAny_bind (wpAny_setField ho hd (by simp) ?_)))
  show wpAny _ _ (newExc (.type "StopIteration") [] >>= _) _ _ _
  refine wpAny_bind ?_
  simp only [newExc, newTuple]
  refine wpAny_bind (wpAny_newObj_type ?_ (by size_fits))
  refine wpAny_bind (m := firstArgMember _ _) (wpAny_of_eq (a := Value.none) (by first | rfl | (simp only [firstArgMember]; rfl)) ?_)
  refine wpAny_newObj_type ?_ (by size_fits)
  simp only [raiseNew]
  refine wpAny_bind (wpAny_handled ?_)
  first | rw [show A.in1.handled = none from hh] | rw [hh]
  refine wpAny_bind (wpAny_pure (wpAny_throw ?_))
  exact hE _ _ (((Heap.SameBut.update ..).extBut.push _).push _) ⟨_, Heap.get?_push_size _ rfl, rfl⟩
end
theorem drawsTuple {prog : Program} {w : World} {A : Around} (hh : A.handled = none) (it l : Addr) (hne : l ≠ it) (items : Array Value) :
    Draws prog w A it [it, l] items.size (fun i v => items[i]? = some v) (fun i h => h.IsTupleIter it l i ∧ h.IsTuple l items) where
  live := fun _ _ st => let ⟨o, ho, _⟩ := st.1; ⟨o, ho⟩
  frame := fun _ _ _ st hk => ⟨let ⟨o, ho, r⟩ := st.1; ⟨o, hk it (by simp) o ho, r⟩, let ⟨o, ho, r⟩ := st.2; ⟨o, hk l (by simp) o ho, r⟩⟩
  item := fun i s Q E hi st hQ => by
    refine nextOf_tuple_item st.1 st.2 (x := items[i]) (by simp [hi]) fun h' hit' hs' => ?_
    exact hQ _ h' s.toks (by simp [hi]) ⟨hit', st.2.extBut hs'.extBut hne⟩ hs'
  done := fun s Q E st hE => nextOf_tuple_end hh st.1 st.2 (by simp) hE
theorem meets_enumerate_newT (l : Addr) (items : Array Value) (n : Nat) (dct : Option Addr) (sl : Array (Option Value)) :
    Meets (Builtin.«enumerate.__new__» ⟨[.type "enumerate", .ref l], []⟩) (fun _ R s => s.heap.get? l = some { cls := .type "tuple", dict := dct, data := .seq items n, slots := sl } ∧
      R (.ok (.ret (.ref (s.heap.push { cls := .type "tuple_iterator", data := .fields #[.ref l, .int 0 0] }).objs.size)))
        { s with heap := (s.heap.push { cls := .type "tuple_iterator", data := .fields #[.ref l, .int 0 0] }).push { cls := .type "enumerate", data := .fields #[.none, .bool false, .ref s.heap.objs.size, rawInt 0, .none, .none] } }) :=
  .of_wp fun prog w A R s h => by
    obtain ⟨hp, g, d, tk, os⟩ := s; obtain ⟨hl, h⟩ := h
    have hsub := sub_enumerate
    have hL : Heap.IsTuple (Shared.heap ⟨hp, g, d, tk, os⟩) l items := ⟨_, hl, rfl, n, rfl⟩
    wp_walk using AutoSeq1.wpAny_loadPart' hl
    refine wpAny_stack_any fun st => wpAny_pure ?_
    split
    · rename_i c _ _ _ _ _
      cases (c == Value.type "enumerate")
      · wp_walk using AutoSeq1.wpAny_loadPart' hl, wpAny_pyIter_tuple hL
        exact ⟨_, rfl, h⟩
      · wp_walk using AutoSeq1.wpAny_loadPart' hl, wpAny_pyIter_tuple hL
        exact ⟨_, rfl, h⟩
    · wp_walk using AutoSeq1.wpAny_loadPart' hl, wpAny_pyIter_tuple hL
      exact ⟨_, rfl, h⟩
section
variable {prog : Program} {w : World} {A : Around} {E : Value → Shared → Prop} {s : Shared}
theorem call_enumerate_tuple {l : Addr} {items : Array Value} {Q : Value → Shared → Prop} (hL : s.heap.IsTuple l items)
    (h : ∀ h', IsEnum h' (s.heap.objs.size + 1) s.heap.objs.size 0 .none → h'.IsTupleIter s.heap.objs.size l 0 → h'.objs.size = s.heap.objs.size + 2 →
      (∀ b o, s.heap.get? b = some o → h'.get? b = some o) → Q (.ref (s.heap.objs.size + 1)) { s with heap := h' }) :
    wpAny (model prog w) A (call (.type "enumerate") [.ref l]) Q E s := by
  obtain ⟨⟨c, dct, dt, sl⟩, hl, hc, n, hd⟩ := hL
  replace hc : c = .type "tuple" := hc
  replace hd : dt = .seq items n := hd
  subst hc hd
  refine callType_new F.called_enumerate (by decide) (F.typeCall_enumerate_1 _) (F.newCall_enumerate_1 _) (fun obj => F.args_object_init_2 obj _) F.entry_enumerate_new
    (meets_enumerate_newT l items n dct sl) ⟨hl, ?_⟩
  have hz : (s.heap.push { cls := .type "tuple_iterator", data := .fields #[.ref l, .int 0 0] }).objs.size = s.heap.objs.size + 1 := Heap.size_push ..
  show _ ∧ _
  rw [hz]
  have he : IsEnum ((s.heap.push { cls := .type "tuple_iterator", data := .fields #[.ref l, .int 0 0] }).push
      { cls := .type "enumerate", data := .fields #[.none, .bool false, .ref s.heap.objs.size, rawInt 0, .none, .none] }) (s.heap.objs.size + 1) s.heap.objs.size 0 .none := by
    have := Heap.get?_push_size (s.heap.push { cls := .type "tuple_iterator", data := .fields #[.ref l, .int 0 0] })
      (o := { cls := .type "enumerate", data := .fields #[.none, .bool false, .ref s.heap.objs.size, rawInt 0, .none, .none] }) rfl
    rw [hz] at this; exact this
  refine ⟨⟨_, he, rfl⟩, h _ he ⟨_, Heap.get?_push_of_some _ (Heap.get?_push_size _ rfl), rfl, rfl⟩ (by rw [Heap.size_push, hz]) fun b o x => Heap.get?_push_of_some _ (Heap.get?_push_of_some _ x)⟩
end
section
variable {prog : Program} {w : World} {A : Around} {s : Shared} {env : Env} {h₀ : Heap} {Q : Flow → Shared → Prop}
theorem loopT {elts : List Expr} {kt : Nat} {tp : Pos} {body : List Stmt} {I : Addr} {fp wr : List Addr} {n : Nat} {P : Nat → Array Value → Prop} {St : Nat → Heap → Prop} {Mid : Nat → Addr → Heap → Prop} {m : Str → Option Value} {news : List (Addr × Obj)}
    (W : WalksT prog w A I fp wr n P St Mid) (hLf : env.locals ∉ fp) (hwr : ∀ b ∈ wr, h₀.get? b = none) (hnw : ∀ p ∈ news, p.1 ∉ wr)
    (hst : St 0 s.heap) (F : Fr h₀ env.locals s.heap m) (N : News h₀ env.locals s.heap news)
    (J : Nat → (Str → Option Value) → List (Addr × Obj) → Prop) (h0 : J 0 m news)
    (step : ∀ i T vals m₁ news₁ h tk own, i < n → P i vals → J i m₁ news₁ → (∀ p ∈ news₁, p.1 ∉ wr) → (∀ p ∈ own, p.1 ∈ fp) → (∀ b ∈ fp, h₀.get? b = none → ∀ o, h.get? b = some o → (b, o) ∈ own) → St (i + 1) h → IsTup h T vals → Fr h₀ env.locals h m₁ → News h₀ env.locals h (own ++ news₁) →
      wpAny (model prog w) A (assign (.Tuple elts kt tp) env (.ref T)) (fun _ s₁ => wpAny (model prog w) A (execs body env) (GPost h₀ env.locals wr own (J (i + 1)) s Q) NoE s₁) NoE { s with heap := h, toks := tk })
    (hR : ∀ h' tk m' news', Fr h₀ env.locals h' m' → News h₀ env.locals h' news' → (∀ p ∈ news', p.1 ∉ wr) → J n m' news' → Q .next { s with heap := h', toks := tk }) :
    codeAny (model prog w) A (.forLoop (.Tuple elts kt tp) (.ref I) body [] env) (fun r s' => match r with | .ok f => Q f s' | .error e => cameBackBy (model prog w) A env NoE e s') s := by
  have hLw : env.locals ∉ wr := fun h => hLf (W.sub _ h)
  have old : ∀ b o, h₀.get? b = some o → b ∉ wr := fun b o e hb => by rw [hwr b hb] at e; cases e
  refine codeAny_forLoop_any
    (fun k s' => ∃ h' tk m' news' i, s' = { s with heap := h', toks := tk } ∧ St i h' ∧ Fr h₀ env.locals h' m' ∧ News h₀ env.locals h' news' ∧ (∀ p ∈ news', p.1 ∉ wr) ∧ J i m' news' ∧ i ≤ n ∧ k = n + 1 - i) ?_ (n + 1)
    ⟨s.heap, s.toks, m, news, 0, rfl, hst, F, N, hnw, h0, Nat.zero_le _, rfl⟩
  rintro k s' ⟨h', tk, m', news', i, rfl, hst', F', N', hnw', hJ, hi, rfl⟩
  have next : ∀ h₁ : Heap, (∀ b o, b ∉ wr → h'.get? b = some o → h₁.get? b = some o) → Fr h₀ env.locals h₁ m' ∧ News h₀ env.locals h₁ news' := fun h₁ hk₁ =>
    ⟨⟨F'.ns.at' fun o e => hk₁ _ o hLw e, fun b o e => hk₁ b o (old b o e) (F'.keep b o e), F'.above⟩, fun p hp => ⟨hk₁ _ _ (hnw' p hp) (N' p hp).1, (N' p hp).2⟩⟩
  by_cases hlt : i < n
  · refine W.item i _ _ _ hlt hst' fun T vals h₀₁ tk₁ hP hT₀ hTt hMid hk₀₁ => ?_
    refine W.go elts kt tp i T _ _ _ hMid fun h₁ hst₁ hk₁₁ => ?_
    have hk₁ : ∀ b o, b ∉ wr → h'.get? b = some o → h₁.get? b = some o := fun b o hb e => hk₁₁ b o hb (hk₀₁ b o hb e)
    have hTT : IsTup h₁ T vals := by
      obtain ⟨o, ho, r⟩ := hTt
      exact ⟨o, hk₁₁ _ _ (W.apart _ _ _ hMid) ho, r⟩
    obtain ⟨F₁, N₁⟩ := next h₁ hk₁
    have Nown : News h₀ env.locals h₁ (ownOf h₀ fp h₁) := news_ownOf hLf
    refine wpAny_mono (step i T vals m' news' h₁ tk₁ (ownOf h₀ fp h₁) hlt hP hJ hnw' ownOf_sub (fun b hb hn o e => mem_ownOf hb hn e) hst₁ hTT F₁ (Nown.append N₁)) (fun _ s₂ h₂ => ?_) fun _ _ e => e.elim
    refine wpAny_mono h₂ (fun f s₃ h₃ => ?_) fun _ _ e => e.elim
    have fin : GEnd h₀ env.locals wr (ownOf h₀ fp h₁) (J (i + 1)) s s₃ → ∃ m, m < n + 1 - i ∧ ∃ h' tk m' news' j, s₃ = { s with heap := h', toks := tk } ∧ St j h' ∧ Fr h₀ env.locals h' m' ∧ News h₀ env.locals h' news' ∧ (∀ p ∈ news', p.1 ∉ wr) ∧ J j m' news' ∧ j ≤ n ∧ m = n + 1 - j := by
      rintro ⟨h₃', tk₃, m₂, news₂, rfl, F₃, N₃, ha₃, hJ₃⟩
      refine ⟨n + 1 - (i + 1), by omega, h₃', tk₃, m₂, news₂, i + 1, rfl, ?_, F₃, N₃.right, ha₃, hJ₃, hlt, rfl⟩
      refine W.frame _ _ _ hst₁ fun b hb o e => ?_
      cases hn : h₀.get? b with
      | some o₀ =>
        have : o₀ = o := by have := F₁.keep b o₀ hn; rw [e] at this; exact (Option.some.inj this).symm
        exact this ▸ F₃.keep b o₀ hn
      | none => exact (N₃ _ (List.mem_append_left _ (mem_ownOf hb hn e))).1
    cases f with
    | ret v => exact h₃
    | brk => exact h₃
    | cont => exact fin h₃
    | next => exact fin h₃
  · have hin : i = n := by omega
    subst hin
    refine W.done _ _ _ hst' fun h₁ tk₁ hk₁ => wpAny_execs_nil ?_
    obtain ⟨F₁, N₁⟩ := next h₁ hk₁
    exact hR h₁ tk₁ m' news' F₁ N₁ hnw' hJ
/-- a loop over enumerate of a tuple that stands in the base -/
theorem iterE {elts : List Expr} {kt : Nat} {tp : Pos} {body : List Stmt} {l : Addr} {items : Array Value} {m : Str → Option Value} {news : List (Addr × Obj)} (hh : A.handled = none) (hl : IsTup h₀ l items)
    (F : Fr h₀ env.locals s.heap m) (N : News h₀ env.locals s.heap news) (J : Nat → (Str → Option Value) → List (Addr × Obj) → Prop) (h0 : J 0 m news)
    (step : ∀ i x t T m₁ news₁ h tk I e own, items[i]? = some x → J i m₁ news₁ → (∀ p ∈ news₁, p.1 ≠ I ∧ p.1 ≠ e) → (∀ p ∈ own, p.1 = e ∨ p.1 = I) → IsTup h T #[.int (i : Nat) t, x] → Fr h₀ env.locals h m₁ → News h₀ env.locals h (own ++ news₁) →
      wpAny (model prog w) A (assign (.Tuple elts kt tp) env (.ref T)) (fun _ s₁ => wpAny (model prog w) A (execs body env) (GPost h₀ env.locals [e, I] own (J (i + 1)) s Q) NoE s₁) NoE { s with heap := h, toks := tk })
    (hR : ∀ h' tk m' news', Fr h₀ env.locals h' m' → News h₀ env.locals h' news' → J items.size m' news' → Q .next { s with heap := h', toks := tk }) :
    wpAny (model prog w) A (call (.type "enumerate") [.ref l]) (fun xv s₁ => Hold (wpAny (model prog w) A (pyIter xv) (fun it s₂ => codeAny (model prog w) A (.forLoop (.Tuple elts kt tp) it body [] env) (fun r s' => match r with | .ok f => Q f s' | .error e => cameBackBy (model prog w) A env NoE e s') s₂) NoE s₁)) NoE s := by
  obtain ⟨o, ho, hc, n9, hd⟩ := hl
  have hls : s.heap.IsTuple l items := ⟨o, F.keep _ _ ho, hc, n9, hd⟩
  have hlt : l < s.heap.objs.size := Heap.lt_size (F.keep _ _ ho)
  have hLlt : env.locals < s.heap.objs.size := F.ns.lt
  have hlL : l ≠ env.locals := fun q => absurd (Heap.lt_size ho) (by rw [q]; exact Nat.not_lt.mpr F.above)
  refine call_enumerate_tuple hls fun h' hE hI hsz hk => unhold ?_
  have W := WalksT.enumerateD (prog := prog) (w := w) (A := A) (drawsTuple (A := A.in1) hh s.heap.objs.size l (Nat.ne_of_lt hlt) items) (s.heap.objs.size + 1) (Nat.succ_ne_self _) (by
    intro hm
    rcases List.mem_cons.mp hm with q | q
    · exact Nat.succ_ne_self _ q
    · have := List.mem_singleton.mp q
      rw [← this] at hlt
      exact absurd (Nat.lt_of_succ_lt hlt) (Nat.lt_irrefl _)) (List.mem_cons_self ..)
  have hn1 : h₀.get? (s.heap.objs.size + 1) = none := Heap.get?_none_of_le (Nat.le_trans F.above (Nat.le_of_lt (Nat.lt_succ_of_lt hLlt)))
  have hn2 : h₀.get? s.heap.objs.size = none := Heap.get?_none_of_le (Nat.le_trans F.above (Nat.le_of_lt hLlt))
  refine wpAny_pyIter_enum hE ?_
  refine loopT W (m := m) (news := news) ?_ ?_ ?_ ⟨⟨_, hE⟩, hI, let ⟨o, ho, r⟩ := hls; ⟨o, hk _ _ ho, r⟩⟩ (frKp F hk) (newsKp N hk) J h0 ?_ ?_
  · intro hm
    simp only [List.mem_cons, List.not_mem_nil, or_false] at hm
    rcases hm with q | q | q
    · rw [q] at hLlt; exact absurd (Nat.lt_of_succ_lt hLlt) (Nat.lt_irrefl _)
    · rw [q] at hLlt; exact absurd hLlt (Nat.lt_irrefl _)
    · exact hlL q.symm
  · intro b hb
    simp only [List.mem_cons, List.not_mem_nil, or_false] at hb
    rcases hb with q | q
    · rw [q]; exact hn1
    · rw [q]; exact hn2
  · intro p hp hb
    have := Heap.lt_size (N p hp).1
    simp only [List.mem_cons, List.not_mem_nil, or_false] at hb
    rcases hb with q | q
    · rw [q] at this; exact absurd (Nat.lt_of_succ_lt this) (Nat.lt_irrefl _)
    · rw [q] at this; exact absurd this (Nat.lt_irrefl _)
  · intro i T vals m₁ news₁ h tk own hi hP hJ hoff hown hmem hst hT F₁ N₁
    obtain ⟨t, x, hx, rfl⟩ := hP
    refine step i x t T m₁ news₁ h tk _ _ own hx hJ (fun p hp => ⟨fun q => hoff p hp (by simp [q]), fun q => hoff p hp (by simp [q])⟩) (fun p hp => ?_) hT F₁ N₁
    have := hown p hp
    simp only [List.mem_cons, List.not_mem_nil, or_false] at this
    rcases this with q | q | q
    · exact .inl q
    · exact .inr q
    · exfalso
      have := (N₁ p (List.mem_append_left _ hp)).2.2
      rw [q, ho] at this; cases this
  · intro h' tk m' news' F' N' _ hJ
    exact hR h' tk m' news' F' N' hJ
end
end Mine
end
section
open PySem PySem.W PyProof.Rows
set_option maxRecDepth 100000
set_option linter.unusedSimpArgs false
set_option linter.unusedVariables false
namespace Mine
section
variable {prog : Program} {w : World} {A : Around} {s : Shared} {env : Env} {h₀ : Heap} {Q : Flow → Shared → Prop}
theorem go_tuple {elts : List Expr} {x1} {pos : Pos} {I l : Addr} {v : Value} {i : Nat} {Q : Unit → Shared → Prop} {E : Value → Shared → Prop} (hit : s.heap.IsTupleIter I l i) (hQ : Q () s) :
    wpAny (model prog w) A (letOwnedTupleGo (.Tuple elts x1 pos) (.ref I) v) Q E s := by
  cases v with
  | ref T =>
    obtain ⟨o, ho, hc, hd⟩ := hit
    unfold letOwnedTupleGo
    refine wpAny_bind (wpAny_load ho ?_)
    rw [hc, hd]
    exact wpAny_pure hQ
  | _ => exact wpAny_pure hQ
theorem loopO {target : Expr} {body orelse : List Stmt} {I : Addr} {fp wr : List Addr} {n : Nat} {P : Nat → Value → Prop} {St : Nat → Heap → Prop} {m : Str → Option Value} {news : List (Addr × Obj)}
    (W : Walks prog w A I fp wr n P St) (hLf : env.locals ∉ fp) (hwr : ∀ b ∈ wr, h₀.get? b = none) (hnw : ∀ p ∈ news, p.1 ∉ wr)
    (hst : St 0 s.heap) (F : Fr h₀ env.locals s.heap m) (N : News h₀ env.locals s.heap news)
    (J : Nat → (Str → Option Value) → List (Addr × Obj) → Prop) (h0 : J 0 m news)
    (step : ∀ i v m₁ news₁ h tk own, i < n → P i v → J i m₁ news₁ → (∀ p ∈ news₁, p.1 ∉ wr) → (∀ p ∈ own, p.1 ∈ fp) → (∀ b ∈ fp, h₀.get? b = none → ∀ o, h.get? b = some o → (b, o) ∈ own) → St (i + 1) h → Fr h₀ env.locals h m₁ → News h₀ env.locals h (own ++ news₁) →
      wpAny (model prog w) A (assign target env v) (fun _ s₁ => wpAny (model prog w) A (execs body env) (GPost h₀ env.locals wr own (J (i + 1)) s Q) NoE s₁) NoE { s with heap := h, toks := tk })
    (hR : ∀ h' tk m' news', Fr h₀ env.locals h' m' → News h₀ env.locals h' news' → (∀ p ∈ news', p.1 ∉ wr) → J n m' news' → wpAny (model prog w) A (execs orelse env) Q NoE { s with heap := h', toks := tk })
    (ht : ∀ i v s' (R : Unit → Shared → Prop) (E' : Value → Shared → Prop), St (i + 1) s'.heap → R () s' → wpAny (model prog w) A (letOwnedTupleGo target (.ref I) v) R E' s') :
    codeAny (model prog w) A (.forLoop target (.ref I) body orelse env) (fun r s' => match r with | .ok f => Q f s' | .error e => cameBackBy (model prog w) A env NoE e s') s := by
  have hLw : env.locals ∉ wr := fun h => hLf (W.sub _ h)
  have old : ∀ b o, h₀.get? b = some o → b ∉ wr := fun b o e hb => by rw [hwr b hb] at e; cases e
  refine codeAny_forLoop_any
    (fun k s' => ∃ h' tk m' news' i, s' = { s with heap := h', toks := tk } ∧ St i h' ∧ Fr h₀ env.locals h' m' ∧ News h₀ env.locals h' news' ∧ (∀ p ∈ news', p.1 ∉ wr) ∧ J i m' news' ∧ i ≤ n ∧ k = n + 1 - i) ?_ (n + 1)
    ⟨s.heap, s.toks, m, news, 0, rfl, hst, F, N, hnw, h0, Nat.zero_le _, rfl⟩
  rintro k s' ⟨h', tk, m', news', i, rfl, hst', F', N', hnw', hJ, hi, rfl⟩
  have next : ∀ h₁ : Heap, (∀ b o, b ∉ wr → h'.get? b = some o → h₁.get? b = some o) → Fr h₀ env.locals h₁ m' ∧ News h₀ env.locals h₁ news' := fun h₁ hk₁ =>
    ⟨⟨F'.ns.at' fun o e => hk₁ _ o hLw e, fun b o e => hk₁ b o (old b o e) (F'.keep b o e), F'.above⟩, fun p hp => ⟨hk₁ _ _ (hnw' p hp) (N' p hp).1, (N' p hp).2⟩⟩
  by_cases hlt : i < n
  · refine W.item i _ _ _ hlt hst' fun v h₁ tk₁ hP hst₁ hk₁ => ?_
    obtain ⟨F₁, N₁⟩ := next h₁ hk₁
    have Nown : News h₀ env.locals h₁ (ownOf h₀ fp h₁) := news_ownOf hLf
    refine ht i v _ _ _ hst₁ ?_
    refine wpAny_mono (step i v m' news' h₁ tk₁ (ownOf h₀ fp h₁) hlt hP hJ hnw' ownOf_sub (fun b hb hn o e => mem_ownOf hb hn e) hst₁ F₁ (Nown.append N₁)) (fun _ s₂ h₂ => ?_) fun _ _ e => e.elim
    refine wpAny_mono h₂ (fun f s₃ h₃ => ?_) fun _ _ e => e.elim
    have fin : GEnd h₀ env.locals wr (ownOf h₀ fp h₁) (J (i + 1)) s s₃ → ∃ m, m < n + 1 - i ∧ ∃ h' tk m' news' j, s₃ = { s with heap := h', toks := tk } ∧ St j h' ∧ Fr h₀ env.locals h' m' ∧ News h₀ env.locals h' news' ∧ (∀ p ∈ news', p.1 ∉ wr) ∧ J j m' news' ∧ j ≤ n ∧ m = n + 1 - j := by
      rintro ⟨h₃', tk₃, m₂, news₂, rfl, F₃, N₃, ha₃, hJ₃⟩
      refine ⟨n + 1 - (i + 1), by omega, h₃', tk₃, m₂, news₂, i + 1, rfl, ?_, F₃, N₃.right, ha₃, hJ₃, hlt, rfl⟩
      refine W.frame _ _ _ hst₁ fun b hb o e => ?_
      cases hn : h₀.get? b with
      | some o₀ =>
        have : o₀ = o := by have := F₁.keep b o₀ hn; rw [e] at this; exact (Option.some.inj this).symm
        exact this ▸ F₃.keep b o₀ hn
      | none => exact (N₃ _ (List.mem_append_left _ (mem_ownOf hb hn e))).1
    cases f with
    | ret v => exact h₃
    | brk => exact h₃
    | cont => exact fin h₃
    | next => exact fin h₃
  · have hin : i = n := by omega
    subst hin
    refine W.done _ _ _ hst' fun h₁ tk₁ hk₁ => ?_
    obtain ⟨F₁, N₁⟩ := next h₁ hk₁
    exact wpAny_mono (hR h₁ tk₁ m' news' F₁ N₁ hnw' hJ) (fun _ _ e => e) fun _ _ e => e.elim
theorem For_O {target iter : Expr} {body orelse : List Stmt} {pos : Pos}
    (h : wpAny (model prog w) A (eval iter env) (fun xv s₁ => Hold (wpAny (model prog w) A (pyIter xv) (fun it s₂ => codeAny (model prog w) A (.forLoop target it body orelse env) (fun r s' => match r with | .ok f => Q f s' | .error e => cameBackBy (model prog w) A env NoE e s') s₂) NoE s₁)) NoE s)
    (hs : ∀ x, foldedSetIterable iter env x = pure x := by intro _; rfl) :
    wpAny (model prog w) A (exec (.For target iter body orelse pos) env) Q NoE s := wpAny_For h hs
/-- the loop over a tuple of the base, with its else -/
theorem iterO {elts : List Expr} {kt : Nat} {tp : Pos} {body orelse : List Stmt} {l : Addr} {vs : List Value} {m : Str → Option Value} {news : List (Addr × Obj)} (hh : A.handled = none) (hl : IsTup h₀ l vs.toArray)
    (F : Fr h₀ env.locals s.heap m) (N : News h₀ env.locals s.heap news) (J : Nat → (Str → Option Value) → List (Addr × Obj) → Prop) (h0 : J 0 m news)
    (step : ∀ i v m₁ news₁ h tk I own, vs[i]? = some v → J i m₁ news₁ → (∀ p ∈ news₁, p.1 ≠ I) → (∀ p ∈ own, p.1 = I) → Fr h₀ env.locals h m₁ → News h₀ env.locals h (own ++ news₁) →
      wpAny (model prog w) A (assign (.Tuple elts kt tp) env v) (fun _ s₁ => wpAny (model prog w) A (execs body env) (GPost h₀ env.locals [I] own (J (i + 1)) s Q) NoE s₁) NoE { s with heap := h, toks := tk })
    (hR : ∀ h' tk m' news', Fr h₀ env.locals h' m' → News h₀ env.locals h' news' → J vs.length m' news' → wpAny (model prog w) A (execs orelse env) Q NoE { s with heap := h', toks := tk }) :
    wpAny (model prog w) A (pyIter (.ref l)) (fun it s₂ => codeAny (model prog w) A (.forLoop (.Tuple elts kt tp) it body orelse env) (fun r s' => match r with | .ok f => Q f s' | .error e => cameBackBy (model prog w) A env NoE e s') s₂) NoE s := by
  obtain ⟨o, ho, hc, n9, hd⟩ := hl
  have hls : s.heap.IsTuple l vs.toArray := ⟨o, F.keep _ _ ho, hc, n9, hd⟩
  have hlL : l ≠ env.locals := fun q => absurd (Heap.lt_size ho) (by rw [q]; exact Nat.not_lt.mpr F.above)
  refine wpAny_pyIter_tuple hls ?_
  have hlt : l < s.heap.objs.size := Heap.lt_size (F.keep _ _ ho)
  have hne : l ≠ s.heap.objs.size := Nat.ne_of_lt hlt
  have W := Walks.tuple (prog := prog) (w := w) hh s.heap.objs.size l hne vs.toArray
  have hlen : vs.toArray.size = vs.length := by simp
  rw [hlen] at W
  have hnI : ∀ p ∈ news, p.1 < s.heap.objs.size := fun p hp => Heap.lt_size (N p hp).1
  refine loopO W (m := m) (news := news) ?_ ?_ ?_ ⟨⟨_, Heap.get?_push_size _ rfl, rfl, rfl⟩, hls.push _⟩ (F.push _) (fun p hp => ⟨Heap.get?_push_of_some _ (N p hp).1, (N p hp).2⟩) J h0 ?_ ?_ ?_
  · intro hm
    rcases List.mem_cons.mp hm with e | hm
    · exact absurd F.ns.lt (e ▸ Nat.lt_irrefl _)
    · exact hlL (List.mem_singleton.mp hm).symm
  · intro b hb
    rw [List.mem_singleton.mp hb]
    exact next_is_new F
  · intro p hp hI
    exact absurd (hnI p hp) ((List.mem_singleton.mp hI) ▸ Nat.lt_irrefl _)
  · intro i v m₁ news₁ h tk own hi hP hJ hoff hown hmem hst F₁ N₁
    refine step i v m₁ news₁ h tk s.heap.objs.size own (by simpa using hP) hJ (fun p hp e => hoff p hp (by rw [e]; exact List.mem_singleton.mpr rfl)) (fun p hp => ?_) F₁ N₁
    rcases List.mem_cons.mp (hown p hp) with e | e
    · exact e
    · exfalso
      have := (N₁ p (List.mem_append_left _ hp)).2.2
      rw [List.mem_singleton.mp e, ho] at this; cases this
  · intro h' tk m' news' F' N' _ hJ
    exact hR h' tk m' news' F' N' hJ
  · intro i v s' R E' hst hR'
    exact go_tuple hst.1 hR'
end
end Mine
end
section
open PySem PySem.W PyProof.Rows
set_option maxRecDepth 100000
set_option linter.unusedVariables false
namespace Mine
inductive PairsAt (h : Heap) : List Value → List (Int × Str) → Prop
  | nil : PairsAt h [] []
  | cons {b : Addr} {o : Obj} {tb tc : Tok} {n : Nat} {bit : Int} {c : Str} {vs : List Value} {l : List (Int × Str)} : h.get? b = some o → o.cls = .type "tuple" → o.data = .seq #[.int bit tb, .str c tc] n → PairsAt h vs l → PairsAt h (.ref b :: vs) ((bit, c) :: l)
inductive TabsAt (h : Heap) : List Value → List (List (Int × Str)) → Prop
  | nil : TabsAt h [] []
  | cons {b : Addr} {o : Obj} {n : Nat} {ps vs : List Value} {l : List (Int × Str)} {ts : List (List (Int × Str))} : h.get? b = some o → o.cls = .type "tuple" → o.data = .seq ps.toArray n → PairsAt h ps l → TabsAt h vs ts → TabsAt h (.ref b :: vs) (l :: ts)
theorem tup_in {K : Frag} {h : Heap} {a : Addr} {o : Obj} {items : Array Value} {n : Nat} (X : K.In h) (hk : K.lookup a = some o) (hc : o.cls = .type "tuple") (hd : o.data = .seq items n) : IsTup h a items := ⟨o, X _ _ hk, hc, n, hd⟩
theorem tabs_c {K : Frag} {h : Heap} {b : Addr} {o : Obj} {n : Nat} {ps vs : List Value} {l : List (Int × Str)} {ts : List (List (Int × Str))} (X : K.In h) (hk : K.lookup b = some o) (hc : o.cls = .type "tuple") (hd : o.data = .seq ps.toArray n) (hp : PairsAt h ps l) (ht : TabsAt h vs ts) : TabsAt h (.ref b :: vs) (l :: ts) := .cons (X _ _ hk) hc hd hp ht
theorem pairs_c {K : Frag} {h : Heap} {b : Addr} {o : Obj} {tb tc : Tok} {n : Nat} {bit : Int} {c : Str} {vs : List Value} {l : List (Int × Str)} (X : K.In h) (hk : K.lookup b = some o) (hc : o.cls = .type "tuple") (hd : o.data = .seq #[.int bit tb, .str c tc] n) (hp : PairsAt h vs l) : PairsAt h (.ref b :: vs) ((bit, c) :: l) := .cons (X _ _ hk) hc hd hp
def fmTabs : List (List (Int × Str)) := [[(40960, Str.ofString "l"), (49152, Str.ofString "s"), (32768, Str.ofString "-"), (24576, Str.ofString "b"), (16384, Str.ofString "d"), (8192, Str.ofString "c"), (4096, Str.ofString "p")], [(256, Str.ofString "r")], [(128, Str.ofString "w")], [(2112, Str.ofString "s"), (2048, Str.ofString "S"), (64, Str.ofString "x")], [(32, Str.ofString "r")], [(16, Str.ofString "w")], [(1032, Str.ofString "s"), (1024, Str.ofString "S"), (8, Str.ofString "x")], [(4, Str.ofString "r")], [(2, Str.ofString "w")], [(513, Str.ofString "t"), (512, Str.ofString "T"), (1, Str.ofString "x")]]
theorem tabs_at {P : Params} {h : Heap} (X : (Mine.hd.heap_1 P).In h) : On PySem.Challenge.rw_qh0025_01 Mine.hd.heap_1 (∃ vs, IsTup h 229 (List.toArray vs) ∧ TabsAt h vs fmTabs) := by
  k_fill
  unfold On
  refine' ⟨[.ref 204, .ref 206, .ref 208, .ref 212, .ref 214, .ref 216, .ref 220, .ref 222, .ref 224, .ref 228], tup_in X ?k1 ?k2 ?k3, ?_⟩
  case k1 => k_is
  case k2 => exact rfl
  case k3 => exact rfl
  refine' tabs_c (ps := [.ref 197, .ref 198, .ref 199, .ref 200, .ref 201, .ref 202, .ref 203]) X ?k1 ?k2 ?k3 ?p ?_
  case k1 => k_is
  case k2 => exact rfl
  case k3 => exact rfl
  case p =>
    refine' pairs_c X ?k1 ?k2 ?k3 ?_
    case k1 => k_is
    case k2 => exact rfl
    case k3 => exact rfl
    refine' pairs_c X ?k1 ?k2 ?k3 ?_
    case k1 => k_is
    case k2 => exact rfl
    case k3 => exact rfl
    refine' pairs_c X ?k1 ?k2 ?k3 ?_
    case k1 => k_is
    case k2 => exact rfl
    case k3 => exact rfl
    refine' pairs_c X ?k1 ?k2 ?k3 ?_
    case k1 => k_is
    case k2 => exact rfl
    case k3 => exact rfl
    refine' pairs_c X ?k1 ?k2 ?k3 ?_
    case k1 => k_is
    case k2 => exact rfl
    case k3 => exact rfl
    refine' pairs_c X ?k1 ?k2 ?k3 ?_
    case k1 => k_is
    case k2 => exact rfl
    case k3 => exact rfl
    refine' pairs_c X ?k1 ?k2 ?k3 ?_
    case k1 => k_is
    case k2 => exact rfl
    case k3 => exact rfl
    exact .nil
  refine' tabs_c (ps := [.ref 205]) X ?k1 ?k2 ?k3 ?p ?_
  case k1 => k_is
  case k2 => exact rfl
  case k3 => exact rfl
  case p =>
    refine' pairs_c X ?k1 ?k2 ?k3 ?_
    case k1 => k_is
    case k2 => exact rfl
    case k3 => exact rfl
    exact .nil
  refine' tabs_c (ps := [.ref 207]) X ?k1 ?k2 ?k3 ?p ?_
  case k1 => k_is
  case k2 => exact rfl
  case k3 => exact rfl
  case p =>
    refine' pairs_c X ?k1 ?k2 ?k3 ?_
    case k1 => k_is
    case k2 => exact rfl
    case k3 => exact rfl
    exact .nil
  refine' tabs_c (ps := [.ref 209, .ref 210, .ref 211]) X ?k1 ?k2 ?k3 ?p ?_
  case k1 => k_is
  case k2 => exact rfl
  case k3 => exact rfl
  case p =>
    refine' pairs_c X ?k1 ?k2 ?k3 ?_
    case k1 => k_is
    case k2 => exact rfl
    case k3 => exact rfl
    refine' pairs_c X ?k1 ?k2 ?k3 ?_
    case k1 => k_is
    case k2 => exact rfl
    case k3 => exact rfl
    refine' pairs_c X ?k1 ?k2 ?k3 ?_
    case k1 => k_is
    case k2 => exact rfl
    case k3 => exact rfl
    exact .nil
  refine' tabs_c (ps := [.ref 213]) X ?k1 ?k2 ?k3 ?p ?_
  case k1 => k_is
  case k2 => exact rfl
  case k3 => exact rfl
  case p =>
    refine' pairs_c X ?k1 ?k2 ?k3 ?_
    case k1 => k_is
    case k2 => exact rfl
    case k3 => exact rfl
    exact .nil
  refine' tabs_c (ps := [.ref 215]) X ?k1 ?k2 ?k3 ?p ?_
  case k1 => k_is
  case k2 => exact rfl
  case k3 => exact rfl
  case p =>
    refine' pairs_c X ?k1 ?k2 ?k3 ?_
    case k1 => k_is
    case k2 => exact rfl
    case k3 => exact rfl
    exact .nil
  refine' tabs_c (ps := [.ref 217, .ref 218, .ref 219]) X ?k1 ?k2 ?k3 ?p ?_
  case k1 => k_is
  case k2 => exact rfl
  case k3 => exact rfl
  case p =>
    refine' pairs_c X ?k1 ?k2 ?k3 ?_
    case k1 => k_is
    case k2 => exact rfl
    case k3 => exact rfl
    refine' pairs_c X ?k1 ?k2 ?k3 ?_
    case k1 => k_is
    case k2 => exact rfl
    case k3 => exact rfl
    refine' pairs_c X ?k1 ?k2 ?k3 ?_
    case k1 => k_is
    case k2 => exact rfl
    case k3 => exact rfl
    exact .nil
  refine' tabs_c (ps := [.ref 221]) X ?k1 ?k2 ?k3 ?p ?_
  case k1 => k_is
  case k2 => exact rfl
  case k3 => exact rfl
  case p =>
    refine' pairs_c X ?k1 ?k2 ?k3 ?_
    case k1 => k_is
    case k2 => exact rfl
    case k3 => exact rfl
    exact .nil
  refine' tabs_c (ps := [.ref 223]) X ?k1 ?k2 ?k3 ?p ?_
  case k1 => k_is
  case k2 => exact rfl
  case k3 => exact rfl
  case p =>
    refine' pairs_c X ?k1 ?k2 ?k3 ?_
    case k1 => k_is
    case k2 => exact rfl
    case k3 => exact rfl
    exact .nil
  refine' tabs_c (ps := [.ref 225, .ref 226, .ref 227]) X ?k1 ?k2 ?k3 ?p ?_
  case k1 => k_is
  case k2 => exact rfl
  case k3 => exact rfl
  case p =>
    refine' pairs_c X ?k1 ?k2 ?k3 ?_
    case k1 => k_is
    case k2 => exact rfl
    case k3 => exact rfl
    refine' pairs_c X ?k1 ?k2 ?k3 ?_
    case k1 => k_is
    case k2 => exact rfl
    case k3 => exact rfl
    refine' pairs_c X ?k1 ?k2 ?k3 ?_
    case k1 => k_is
    case k2 => exact rfl
    case k3 => exact rfl
    exact .nil
  exact .nil
end Mine
end
section
open PySem PySem.W PyProof.Rows PySem.Calls
set_option maxRecDepth 100000
set_option maxHeartbeats 0
set_option rowWalk.seconds 0
set_option linter.unusedVariables false
namespace Mine
local macro_rules | `(tactic| cell_enter) => `(tactic| (refine' enter ?k1 ?k6 ?k7 ?k9 ?kB ?_ ?c2 ?c3 ?c4 ?c5; (case k1 => k_asm); (case k6 => k_is); (case k7 => k_is); (case k9 => exact BindsTo.of_eq rfl); (case c5 => decide); (case kB => exact locs rfl); (case c2 => exact rfl); (case c3 => exact rfl); (case c4 => exact rfl); intro dp9 fr9 gd9 un9 L9 h9 hA2 hA3 R9 F9 N9 X9 T9; (try dsimp only); (try k_fold)))
section
variable {w : World} {A : Around} {E : Value → Shared → Prop} {s : Shared} {p : Program} {loose : List Str} {mean : ExcName → Option Value} {mg mb : Str → Option Value} {Q : Value → Shared → Prop}
local macro_rules | `(tactic| walk_at "call ref") => `(tactic| (refine hold ?_))
local macro_rules | `(tactic| walk_at "exec For Tuple Call cons nil") => `(tactic| (refine For_G ?_))
local macro_rules | `(tactic| walk_at "exec For Tuple Name cons cons") => `(tactic| (refine For_O ?_))
local macro_rules | `(tactic| walk_at "call type:enumerate") => `(tactic| (refine hold ?_))
local macro_rules | `(tactic| walk_at "call builtin:list.append") => `(tactic| (refine hold ?_))
local macro_rules | `(tactic| walk_at "call builtin:str.join") => `(tactic| (refine hold ?_))
def fmPick (cond : Int → Bool) (d : Str) : List (Int × Str) → Str
  | [] => d
  | (b, c) :: l => if cond b = true then c else fmPick cond d l
def fmCond (x : Int) (i : Nat) (b : Int) : Bool := if i = 0 then decide (Builtin.bitAnd x 61440 = b) else decide (Builtin.bitAnd x b = b)
def fmSign (x : Int) (i : Nat) (l : List (Int × Str)) : Str := fmPick (fmCond x i) (if i = 0 then Str.ofString "?" else Str.ofString "-") l
def fmSigns (x : Int) : Nat → List (List (Int × Str)) → List Str
  | _, [] => []
  | i, l :: r => fmSign x i l :: fmSigns x (i + 1) r
theorem fmSigns_at (x : Int) : ∀ (k : Nat) (ts : List (List (Int × Str))) (i : Nat) (l : List (Int × Str)), ts[i]? = some l → (fmSigns x k ts)[i]? = some (fmSign x (k + i) l)
  | k, [], i, l, h => by cases h
  | k, t :: ts, 0, l, h => by cases h; rfl
  | k, t :: ts, i + 1, l, h => by
    have := fmSigns_at x (k + 1) ts i l (by simpa using h)
    rw [show k + (i + 1) = k + 1 + i by omega]
    simpa [fmSigns] using this
theorem fmSigns_len (x : Int) : ∀ (k : Nat) (ts : List (List (Int × Str))), (fmSigns x k ts).length = ts.length
  | _, [] => rfl
  | k, t :: ts => by simp [fmSigns, fmSigns_len x (k + 1) ts]
theorem fmPick_hit {cond : Int → Bool} {d : Str} : ∀ {l : List (Int × Str)} {j : Nat} {b : Int} {c : Str}, l[j]? = some (b, c) → (∀ q ∈ l.take j, cond q.1 = false) → cond b = true → fmPick cond d l = c
  | [], j, b, c, h, _, _ => by cases h
  | (b', c') :: l, 0, b, c, h, _, hc => by cases h; rw [fmPick, if_pos hc]
  | (b', c') :: l, j + 1, b, c, h, hq, hc => by
    rw [fmPick, if_neg (by rw [hq (b', c') (by simp)]; decide)]
    exact fmPick_hit (by simpa using h) (fun q hq' => hq q (by simp [hq'])) hc
theorem fmPick_miss {cond : Int → Bool} {d : Str} : ∀ {l : List (Int × Str)}, (∀ q ∈ l, cond q.1 = false) → fmPick cond d l = d
  | [], _ => rfl
  | (b', c') :: l, hq => by
    rw [fmPick, if_neg (by rw [hq (b', c') (.head _)]; decide)]
    exact fmPick_miss fun q h => hq q (.tail _ h)
theorem brk_ {h₀ : Heap} {L : Addr} {wr : List Addr} {own : List (Addr × Obj)} {Jn : (Str → Option Value) → List (Addr × Obj) → Prop} {s s₂ : Shared} {Q : Flow → Shared → Prop} (h : Q .next s₂) : GPost h₀ L wr own Jn s Q .brk s₂ := h
theorem fmPick_small {cond : Int → Bool} {d : Str} (hd : d.length ≤ 1) : ∀ {l : List (Int × Str)}, (∀ q ∈ l, q.2.length ≤ 1) → (fmPick cond d l).length ≤ 1
  | [], _ => hd
  | (b', c') :: l, hq => by
    rw [fmPick]
    split
    · exact hq (b', c') (.head _)
    · exact fmPick_small hd fun q h => hq q (.tail _ h)
theorem fmSigns_small (x : Int) : ∀ (k : Nat) (ts : List (List (Int × Str))), (∀ t ∈ ts, ∀ q ∈ t, q.2.length ≤ 1) → ∀ y ∈ fmSigns x k ts, y.length ≤ 1
  | _, [], _ => fun y h => nomatch h
  | k, t :: ts, hq => by
    intro y hy
    rcases List.mem_cons.mp hy with rfl | hy
    · exact fmPick_small (by split <;> decide) (hq t (.head _))
    · exact fmSigns_small x (k + 1) ts (fun t h => hq t (.tail _ h)) y hy
theorem fm_small (x : Int) : ((fmSigns x 0 fmTabs).map (·.length)).sum + (fmSigns x 0 fmTabs).length * 64 ≤ 16777216 := by
  have h1 := StrLaws.sumLen_le (B := 1) (fmSigns x 0 fmTabs) (fmSigns_small x 0 fmTabs (by decide +kernel))
  have h2 : (fmSigns x 0 fmTabs).length = 10 := by rw [fmSigns_len]; rfl
  omega
theorem PairsAt.at' {h : Heap} : ∀ {vs : List Value} {l : List (Int × Str)}, PairsAt h vs l → ∀ {i : Nat} {v : Value}, vs[i]? = some v → ∃ b tb tc bit c, v = .ref b ∧ IsTup h b #[.int bit tb, .str c tc] ∧ l[i]? = some (bit, c)
  | _, _, .nil, i, v, e => by cases e
  | _, _, .cons a b c r, 0, v, e => by cases e; exact ⟨_, _, _, _, _, rfl, ⟨_, a, b, _, c⟩, rfl⟩
  | _, _, .cons a b c r, i + 1, v, e => by
    obtain ⟨b', tb, tc, bit, c', e1, e2, e3⟩ := PairsAt.at' r (i := i) (by simpa using e)
    exact ⟨b', tb, tc, bit, c', e1, e2, by simpa using e3⟩
theorem PairsAt.length {h : Heap} : ∀ {vs : List Value} {l : List (Int × Str)}, PairsAt h vs l → vs.length = l.length
  | _, _, .nil => rfl
  | _, _, .cons a b c r => by simp [PairsAt.length r]
theorem TabsAt.at' {h : Heap} : ∀ {vs : List Value} {l : List (List (Int × Str))}, TabsAt h vs l → ∀ {i : Nat} {v : Value}, vs[i]? = some v → ∃ b ps t, v = .ref b ∧ IsTup h b (List.toArray ps) ∧ PairsAt h ps t ∧ l[i]? = some t
  | _, _, .nil, i, v, e => by cases e
  | _, _, .cons a b c p r, 0, v, e => by cases e; exact ⟨_, _, _, rfl, ⟨_, a, b, _, c⟩, p, rfl⟩
  | _, _, .cons a b c p r, i + 1, v, e => by
    obtain ⟨b', ps, t, e1, e2, e3, e4⟩ := TabsAt.at' r (i := i) (by simpa using e)
    exact ⟨b', ps, t, e1, e2, e3, by simpa using e4⟩
theorem TabsAt.length {h : Heap} : ∀ {vs : List Value} {l : List (List (Int × Str))}, TabsAt h vs l → vs.length = l.length
  | _, _, .nil => rfl
  | _, _, .cons a b c p r => by simp [TabsAt.length r]
inductive OF (x : Int) (t : Tok) (i : Nat) (m : Str → Option Value) (news : List (Addr × Obj)) : Prop
  | intro : ∀ pa pits np, (m (Str.ofString "perm") = some (.ref pa)) → (m (Str.ofString "mode") = some (.int x t)) → (news = [(pa, W.listOf (List.toArray pits) np)]) → (StrsAre pits ((fmSigns x 0 fmTabs).take i)) → OF x t i m news
def IF (x : Int) (t : Tok) (pa : Addr) (pits : List Value) (np i : Nat) (ti : Tok) (own : List (Addr × Obj)) (tab : List (Int × Str)) (j : Nat) (m : Str → Option Value) (news : List (Addr × Obj)) : Prop :=
  m (Str.ofString "perm") = some (.ref pa) ∧ m (Str.ofString "mode") = some (.int x t) ∧ m (Str.ofString "index") = some (.int (i : Nat) ti) ∧ news = (pa, W.listOf (List.toArray pits) np) :: own ∧ ∀ q ∈ tab.take j, fmCond x i q.1 = false
theorem c_filemode {x : Int} {t : Tok} (R : Ready (Mine.hd.heap_1 w.params) p loose mean mg mb A 4 s.heap)
    (ret : ∀ t h' tk, Kp s.heap h' → Q (.str (Txt.join (Str.ofString "") (fmSigns x 0 fmTabs)) t) { s with heap := h', toks := tk }) :
    On PySem.Challenge.rw_qh0025_01 Mine.hd.heap_1 (wpAny (model prog w) A (call (.ref 236) [.int x t] ) Q E s) := by
  k_fill
  unfold On
  k_dflt (refine' enter (n := 3) R ?k6 ?k7 ?k9 ?kB ?_ ?c2 ?c3 ?c4 ?c5; (case k6 => k_is); (case k7 => k_is); (case k9 => exact BindsTo.of_eq rfl); (case c5 => decide); (case kB => exact locs rfl); (case c2 => exact rfl); (case c3 => exact rfl); (case c4 => exact rfl))
  intro dp fr gd un L h1 hdp hun R1 F0 N0 X0 T0
  (try dsimp only)
  obtain ⟨tvs, hT0, hTs⟩ := off (tabs_at X0)
  k_steps
  rename Fr _ _ _ _ => F2
  rename News _ _ _ _ => N2
  refine unhold (iterE (J := OF x t) rfl hT0 F2 N2 ?_ ?_ ?_)
  · exact ⟨_, [], _, rfl, rfl, rfl, .nil⟩
  · clear F2 N2
    intro i v ti T m₁ news₁ h tk I e own hvi hJ hoff hown hT F3 N3
    obtain ⟨pa, pits, np, e1, e2, rfl, hD⟩ := hJ
    obtain ⟨tb, ps, tab, rfl, hTb, hPs, htab⟩ := TabsAt.at' hTs (i := i) (by simpa using hvi)
    rw [canon2 e1 e2] at F3
    have finO : ∀ {h' : Heap} {tk' : Nat} {m' : Str → Option Value} {c' : Str} {t' : Tok} {sA sB : Shared} {own2 : List (Addr × Obj)}, sB = { sA with heap := h', toks := tk' } → Fr s.heap L h' m' → News s.heap L h' ((pa, W.listOf (List.toArray (pits ++ [.str c' t'])) (np + 1)) :: (own ++ own2)) → c' = fmSign x i tab → m' (Str.ofString "perm") = some (.ref pa) → m' (Str.ofString "mode") = some (.int x t) → GEnd s.heap L [e, I] own (OF x t (i + 1)) sA sB := by
      intro h' tk' m' c' t' sA sB own2 hAB F N hc em1 em2
      refine ⟨h', tk', m', [(pa, W.listOf (List.toArray (pits ++ [.str c' t'])) (np + 1))], hAB, F, newsSub N ?_, ?_, pa, _, _, em1, em2, rfl, ?_⟩
      · intro q hq
        simp only [List.mem_cons, List.mem_append, List.not_mem_nil, or_false] at hq ⊢
        rcases hq with h | h
        · exact .inr (.inl h)
        · exact .inl h
      · intro q hq hqI
        rw [List.mem_singleton.mp hq] at hqI
        have := hoff _ (.head _)
        simp only [List.mem_cons, List.not_mem_nil, or_false] at hqI
        rcases hqI with h | h
        · exact this.2 h
        · exact this.1 h
      · have := fmSigns_at x 0 fmTabs i tab htab
        rw [Nat.zero_add] at this
        rw [List.take_add_one, this, hc]
        exact strsAre_push hD _ _
    k_steps
    rename Fr _ _ _ _ => F5
    rename News _ _ _ _ => N5
    refine unhold (iterO (J := IF x t pa pits np i ti own tab) (news := (pa, W.listOf (List.toArray pits) np) :: own) rfl hTb F5 (newsSub N5 ?_) ?_ ?_ ?_)
    · intro q hq
      simp only [List.mem_cons, List.mem_append, List.not_mem_nil, or_false] at hq ⊢
      exact hq.symm
    · exact ⟨rfl, rfl, rfl, rfl, by simp⟩
    · clear F5 N5
      intro j v m₂ news₂ h₂ tk₂ I2 own2 hvj hJ2 hoff2 hown2 F6 N6
      obtain ⟨e1, e2, e3, rfl, hno⟩ := hJ2
      obtain ⟨pb, tbit, tc, bit, c, rfl, hPt, hpc⟩ := PairsAt.at' hPs hvj
      rw [canon3 e1 e2 e3] at F6
      replace N6 : News s.heap L h₂ ((pa, W.listOf (List.toArray pits) np) :: (own ++ own2)) := newsSub N6 (by
        intro q hq
        simp only [List.mem_cons, List.mem_append] at hq ⊢
        rcases hq with h | h | h
        · exact .inr (.inl h)
        · exact .inr (.inr h)
        · exact .inl h)
      have hne : ∀ q ∈ own ++ own2, q.1 ≠ pa := by
        intro q hq
        rcases List.mem_append.mp hq with h | h
        · have := hoff _ (.head _)
          rcases hown q h with e | e
          · rw [e]; exact fun z => this.2 z.symm
          · rw [e]; exact fun z => this.1 z.symm
        · rw [hown2 q h]; exact fun z => hoff2 _ (.head _) z.symm
      have hsz : (List.toArray pits).size ≤ sizeLine := by
        have := hD.length
        have h2 : ((fmSigns x 0 fmTabs).take i).length ≤ 10 := by rw [List.length_take, fmSigns_len]; exact Nat.min_le_right _ _
        rw [List.size_toArray]; simp only [sizeLine]; omega
      have missI : ∀ {h' : Heap} {tk' : Nat} {m' : Str → Option Value} {sA sB : Shared}, sB = { sA with heap := h', toks := tk' } → Fr s.heap L h' m' → News s.heap L h' ((pa, W.listOf (List.toArray pits) np) :: (own ++ own2)) → fmCond x i bit = false → m' (Str.ofString "perm") = some (.ref pa) → m' (Str.ofString "mode") = some (.int x t) → m' (Str.ofString "index") = some (.int (i : Nat) ti) → GEnd s.heap L [I2] own2 (IF x t pa pits np i ti own tab (j + 1)) sA sB := by
        intro h' tk' m' sA sB hAB F N hc em1 em2 em3
        refine ⟨h', tk', m', (pa, W.listOf (List.toArray pits) np) :: own, hAB, F, newsSub N ?_, ?_, em1, em2, em3, rfl, ?_⟩
        · intro q hq
          simp only [List.mem_cons, List.mem_append] at hq ⊢
          rcases hq with h | h | h
          · exact .inr (.inr h)
          · exact .inl h
          · exact .inr (.inl h)
        · intro q hq hqI
          exact hoff2 q hq (List.mem_singleton.mp hqI)
        · intro q hq
          rw [List.take_add_one, hpc] at hq
          rcases List.mem_append.mp hq with h | h
          · exact hno q h
          · rw [List.mem_singleton.mp h]; exact hc
      have hitO : fmCond x i bit = true → c = fmSign x i tab := fun hc => (fmPick_hit hpc hno hc).symm
      have cond0 : (i : Int) = 0 → fmCond x i bit = decide (Builtin.bitAnd x 61440 = bit) := fun h => by rw [fmCond, if_pos (by omega)]
      have cond1 : (i : Int) ≠ 0 → fmCond x i bit = decide (Builtin.bitAnd x bit = bit) := fun h => by rw [fmCond, if_neg (by omega)]
      k_steps
      · have hi0 := ‹(i : Int) = 0›
        refine unhold (off (c_S_IFMT ((R1 _ (Fr.keep (by k_asm))).less (by omega)) fun t4 h4 tk4 k9 => ?_))
        rename Fr _ _ _ _ => F9
        rename News _ _ _ _ => N9
        replace F9 := frKp F9 k9
        replace N9 := newsKp N9 k9
        clear k9
        k_steps
        · have hb := ‹Builtin.bitAnd x 61440 = bit›
          rename Fr _ _ _ _ => F8
          rename News _ _ _ _ => N8
          refine unhold (append_top F8 N8 hne (fun h10 F15 N15 => ?_) hsz)
          clear F8 N8
          rw [List.push_toArray] at N15
          k_steps
          refine brk_ ?_
          k_steps
          exact finO (own2 := own2) rfl F15 N15 (hitO (by rw [cond0 hi0, hb]; simp)) rfl rfl
        · have hb := ‹Builtin.bitAnd x 61440 ≠ bit›
          rename Fr _ _ _ _ => F8
          rename News _ _ _ _ => N8
          exact missI rfl F8 N8 (by rw [cond0 hi0]; simp [hb]) rfl rfl rfl
      · have hi0 := ‹(i : Int) ≠ 0›
        have hb := ‹Builtin.bitAnd x bit = bit›
        rename Fr _ _ _ _ => F8
        rename News _ _ _ _ => N8
        refine unhold (append_top F8 N8 hne (fun h10 F15 N15 => ?_) hsz)
        clear F8 N8
        rw [List.push_toArray] at N15
        k_steps
        refine brk_ ?_
        k_steps
        exact finO (own2 := own2) rfl F15 N15 (hitO (by rw [cond1 hi0, hb]; simp)) rfl rfl
      · have hi0 := ‹(i : Int) ≠ 0›
        have hb := ‹Builtin.bitAnd x bit ≠ bit›
        rename Fr _ _ _ _ => F8
        rename News _ _ _ _ => N8
        exact missI rfl F8 N8 (by rw [cond1 hi0]; simp [hb]) rfl rfl rfl
    · intro h' tk' m' news' F' N' hJ
      obtain ⟨e1, e2, e3, rfl, hno⟩ := hJ
      rw [hPs.length, List.take_length] at hno
      rw [canon3 e1 e2 e3] at F'
      clear F5 N5
      have hne : ∀ q ∈ own, q.1 ≠ pa := by
        intro q h
        have := hoff _ (.head _)
        rcases hown q h with e | e
        · rw [e]; exact fun z => this.2 z.symm
        · rw [e]; exact fun z => this.1 z.symm
      have hsz : (List.toArray pits).size ≤ sizeLine := by
        have := hD.length
        have h2 : ((fmSigns x 0 fmTabs).take i).length ≤ 10 := by rw [List.length_take, fmSigns_len]; exact Nat.min_le_right _ _
        rw [List.size_toArray]; simp only [sizeLine]; omega
      have hms : fmSign x i tab = if i = 0 then Str.ofString "?" else Str.ofString "-" := fmPick_miss hno
      k_steps
      · have hi0 := ‹(i : Int) = 0›
        rename Fr _ _ _ _ => F8
        rename News _ _ _ _ => N8
        refine unhold (append_top F8 N8 hne (fun h10 F15 N15 => ?_) hsz)
        clear F8 N8
        rw [List.push_toArray] at N15
        k_steps
        exact finO (own2 := []) rfl F15 (by rw [List.append_nil]; exact N15) (by rw [hms, if_pos (by omega)]) rfl rfl
      · have hi0 := ‹(i : Int) ≠ 0›
        rename Fr _ _ _ _ => F8
        rename News _ _ _ _ => N8
        refine unhold (append_top F8 N8 hne (fun h10 F15 N15 => ?_) hsz)
        clear F8 N8
        rw [List.push_toArray] at N15
        k_steps
        exact finO (own2 := []) rfl F15 (by rw [List.append_nil]; exact N15) (by rw [hms, if_neg (by omega)]) rfl rfl
  · intro h' tk' m' news' F' N' hJ
    obtain ⟨pa, pits, np, e1, e2, rfl, hD⟩ := hJ
    rw [canon2 e1 e2] at F'
    clear F2 N2
    rw [show (List.toArray tvs).size = fmTabs.length from by rw [List.size_toArray]; exact hTs.length, ← fmSigns_len x 0, List.take_length] at hD
    k_steps
    rename News _ _ _ _ => N7
    refine unhold (join_listC (items := List.toArray pits) ⟨_, News.get N7 (by k_mem), rfl, _, rfl⟩ hD (by decide) (fm_small x) fun t9 k9 => ?_)
    k_steps
    exact ret _ _ _ (Fr.keep (by assumption))
end
end Mine
end
section
open PySem PySem.W PyProof.Rows
set_option maxRecDepth 100000
set_option linter.unusedSimpArgs false
set_option linter.unusedVariables false
namespace Mine
section
variable {prog : Program} {w : World} {A : Around} {s : Shared} {env : Env} {h₀ : Heap} {Q : Flow → Shared → Prop}
/-- a loop over range(n) -/
theorem iterR {target : Expr} {body : List Stmt} {n : Int} {t : Tok} {m : Str → Option Value} {news : List (Addr × Obj)} (hh : A.handled = none) (hn0 : 0 ≤ n) (hn1 : n < 2 ^ 62)
    (F : Fr h₀ env.locals s.heap m) (N : News h₀ env.locals s.heap news) (J : Nat → (Str → Option Value) → List (Addr × Obj) → Prop) (h0 : J 0 m news)
    (step : ∀ (i : Nat) t m₁ news₁ h tk I own, (i : Int) < n → J i m₁ news₁ → (∀ p ∈ news₁, p.1 ≠ I) → (∀ p ∈ own, p.1 = I) → Fr h₀ env.locals h m₁ → News h₀ env.locals h (own ++ news₁) →
      wpAny (model prog w) A (assign target env (.int (i : Nat) t)) (fun _ s₁ => wpAny (model prog w) A (execs body env) (GPost h₀ env.locals [I] own (J (i + 1)) s Q) NoE s₁) NoE { s with heap := h, toks := tk })
    (hR : ∀ h' tk m' news', Fr h₀ env.locals h' m' → News h₀ env.locals h' news' → J n.toNat m' news' → Q .next { s with heap := h', toks := tk })
    (ht : ∀ I v, letOwnedTupleGo target (.ref I) v = pure () := by intro _ _; rfl) :
    wpAny (model prog w) A (call (.type "range") [.int n t]) (fun xv s₁ => Hold (wpAny (model prog w) A (pyIter xv) (fun it s₂ => codeAny (model prog w) A (.forLoop target it body [] env) (fun r s' => match r with | .ok f => Q f s' | .error e => cameBackBy (model prog w) A env NoE e s') s₂) NoE s₁)) NoE s := by
  refine call_range_1 (unhold ?_)
  refine wpAny_pyIter_range (IsRange.new _ _ _ _ _ _ _) (small_one (by omega) (by omega) (by omega) hn1) ?_
  have hz : Builtin.Range.rangeSize 0 n 1 = (n.toNat : Int) := by rw [rangeSize_one]; split <;> omega
  rw [hz]
  generalize hg : s.heap.push { cls := .type "range", data := .fields #[.int 0 s.toks, .int n t, .int 1 (s.toks + 1)] } = h1
  have hk : ∀ b o, s.heap.get? b = some o → h1.get? b = some o := fun b o e => by rw [← hg]; exact Heap.get?_push_of_some _ e
  have F1 := frKp F hk
  have N1 := newsKp N hk
  have W := Walks.range (prog := prog) (w := w) (A := A) hh h1.objs.size 0 1 n.toNat
  have hI : IsRangeIter (h1.push { cls := .type "range_iterator", data := .fields #[rawInt 0, rawInt (n.toNat : Int), rawInt 1] }) h1.objs.size (0 + ((0 : Nat) : Int) * 1) ((n.toNat : Int) - ((0 : Nat) : Int)) 1 := by
    have := Heap.get?_push_size h1 (o := { cls := .type "range_iterator", data := .fields #[rawInt 0, rawInt (n.toNat : Int), rawInt 1] }) rfl
    simpa using this
  have hnI : ∀ p ∈ news, p.1 < h1.objs.size := fun p hp => Heap.lt_size (N1 p hp).1
  refine loopG (s := { s with heap := h1.push { cls := .type "range_iterator", data := .fields #[rawInt 0, rawInt (n.toNat : Int), rawInt 1] }, toks := s.toks + 1 + 1 }) W (m := m) (news := news) ?_ ?_ ?_ hI (F1.push _) (fun p hp => ⟨Heap.get?_push_of_some _ (N1 p hp).1, (N1 p hp).2⟩) J h0 ?_ ?_ (ht _)
  · intro hm
    exact absurd F1.ns.lt (List.mem_singleton.mp hm ▸ Nat.lt_irrefl _)
  · intro b hb
    rw [List.mem_singleton.mp hb]
    exact next_is_new F1
  · intro p hp hI
    exact absurd (hnI p hp) ((List.mem_singleton.mp hI) ▸ Nat.lt_irrefl _)
  · intro i v m₁ news₁ h tk own hi hP hJ hoff hown hmem hst F₁ N₁
    obtain ⟨t', rfl⟩ := hP
    have e : (0 : Int) + (i : Int) * 1 = (i : Int) := by omega
    rw [e]
    exact step i t' m₁ news₁ h tk h1.objs.size own (by omega) hJ (fun p hp e => hoff p hp (by rw [e]; exact List.mem_singleton.mpr rfl)) (fun p hp => List.mem_singleton.mp (hown p hp)) F₁ N₁
  · intro h' tk m' news' F' N' _ hJ
    exact hR h' tk m' news' F' N' hJ
end
end Mine
end
section
open PySem PySem.W PyProof.Rows PySem.Calls
set_option maxRecDepth 100000
set_option maxHeartbeats 0
set_option rowWalk.seconds 0
set_option linter.unusedVariables false
namespace Mine
section
variable {w : World} {A : Around} {E : Value → Shared → Prop} {s : Shared} {p : Program} {loose : List Str} {mean : ExcName → Option Value} {mg mb : Str → Option Value} {Q : Value → Shared → Prop}
local macro_rules | `(tactic| walk_at "exec For Name Call cons nil") => `(tactic| (refine hold ?_))
local macro_rules | `(tactic| walk_at "binaryOp Pow int int") => `(tactic| (with_reducible refine pow_int_small ?kb1 ?kb2 ?kb3 ?_; (case kb1 => omega); (case kb2 => omega); (case kb3 => decide)))
local macro_rules | `(tactic| walk_at "binaryOp FloorDiv int int") => `(tactic| (with_reducible refine floordiv_int ?kbe ?_ (Or.inl (PyProof.noPylong_of_log2 (kbt_py ?kbp))); (case kbe => exact Int.ne_of_gt (pow_pos_of (by decide) _)); (case kbp => omega)))
local macro_rules | `(tactic| walk_at "call type:range") => `(tactic| (refine hold ?_))
local macro_rules | `(tactic| walk_at "subscriptTail") => `(tactic| (refine hold ?_))
def sgnBit (x k : Int) : Int := (x.fdiv (2 ^ (8 - k).toNat)).fmod 2
def sgnSet (x k : Int) : Int := (x.fdiv (2 ^ (11 - k.fdiv 3).toNat)).fmod 2
def sgnTab : List Str := [Str.ofString "Ss", Str.ofString "Ss", Str.ofString "Tt"]
def sgn (x k : Int) : Str := if k.fmod 3 = 2 ∧ sgnSet x k = 1 then Txt.item (sgnTab.getD (k.fdiv 3).toNat Str.empty) (sgnBit x k) else Txt.item (Str.ofString "-rwx") ((k.fmod 3 + 1) * sgnBit x k)
def sgnText (f : Bool) (x : Int) : Nat → Str
  | 0 => if f = true then Str.ofString "d" else Str.ofString "-"
  | i + 1 => sgnText f x i ++ sgn x i
theorem sgn_len (x k : Int) : (sgn x k).length = 1 := by unfold sgn; split <;> rfl
theorem sgnText_len (f : Bool) (x : Int) : ∀ i, (sgnText f x i).length = i + 1
  | 0 => by cases f <;> rfl
  | i + 1 => by rw [sgnText, Str.length_append, sgnText_len f x i, sgn_len]
theorem bit_in (x : Int) : 0 ≤ x.fmod 2 ∧ x.fmod 2 ≤ 1 := ⟨Int.fmod_nonneg_of_pos _ (by decide), by have := Int.fmod_lt_of_pos x (b := 2) (by decide); omega⟩
theorem rwx_in {m b : Int} (hm0 : 0 ≤ m) (hm2 : m ≤ 2) (hb0 : 0 ≤ b) (hb1 : b ≤ 1) : 0 ≤ (m + 1) * b ∧ (m + 1) * b < 4 := by
  have : b = 0 ∨ b = 1 := by omega
  rcases this with rfl | rfl
  · rw [Int.mul_zero]; omega
  · rw [Int.mul_one]; omega
theorem sgnTab_len {j : Nat} (h : j < 3) : (sgnTab.getD j Str.empty).length = 2 := by
  have : j = 0 ∨ j = 1 ∨ j = 2 := by omega
  rcases this with rfl | rfl | rfl <;> decide +kernel
inductive SJ (f : Bool) (x : Int) (t : Tok) (i : Nat) (m : Str → Option Value) (news : List (Addr × Obj)) : Prop
  | intro : ∀ t', (m (Str.ofString "text") = some (.str (sgnText f x i) t')) → (m (Str.ofString "rights") = some (.int x t)) → (news = []) → SJ f x t i m news
theorem sgn_hi {x k : Int} (h1 : k.fmod 3 = 2) (h2 : (x.fdiv (2 ^ (11 - k.fdiv 3).toNat)).fmod 2 = 1) : sgn x k = Txt.item (sgnTab.getD (k.fdiv 3).toNat Str.empty) ((x.fdiv (2 ^ (8 - k).toNat)).fmod 2) := if_pos ⟨h1, h2⟩
theorem sgn_lo {x k : Int} (h : ¬ (k.fmod 3 = 2 ∧ (x.fdiv (2 ^ (11 - k.fdiv 3).toNat)).fmod 2 = 1)) : sgn x k = Txt.item (Str.ofString "-rwx") ((k.fmod 3 + 1) * (x.fdiv (2 ^ (8 - k).toNat)).fmod 2) := if_neg h
theorem c_signs {f : Bool} {x : Int} {t : Tok} (h0 : 0 ≤ x) (h1 : x < 4096) (R : Ready (Mine.hd.heap_1 w.params) p loose mean mg mb A 4 s.heap)
    (ret : ∀ t h' tk, Kp s.heap h' → Q (.str (sgnText f x 9) t) { s with heap := h', toks := tk }) :
    On PySem.Challenge.rw_qh0025_01 Mine.hd.heap_1 (wpAny (model prog w) A (call (.ref 272) [.bool f, .int x t] ) Q E s) := by
  k_fill
  unfold On
  k_dflt (refine' enter (n := 3) R ?k6 ?k7 ?k9 ?kB ?_ ?c2 ?c3 ?c4 ?c5; (case k6 => k_is); (case k7 => k_is); (case k9 => exact BindsTo.of_eq rfl); (case c5 => decide); (case kB => exact locs rfl); (case c2 => exact rfl); (case c3 => exact rfl); (case c4 => exact rfl))
  intro dp fr gd un L h1 hdp hun R1 F0 N0 X0 T0
  (try dsimp only)
  (try generalize s.gens = gs9 at *)
  (try generalize s.drawn = dr9 at *)
  (try generalize s.os = os9 at *)
  (try generalize s.toks + _ = tk9 at *)
  obtain ⟨fb, hfb⟩ : ∃ fb, fb = f := ⟨_, rfl⟩
  rw [← hfb] at ret
  cases f <;> (
    k_steps
    refine unhold (For_G ?_)
    k_steps
    rename Fr _ _ _ _ => F2
    rename News _ _ _ _ => N2
    refine unhold (iterR (J := SJ fb x t) rfl (by decide) (by decide) F2 N2 ⟨_, by rw [hfb]; rfl, rfl, rfl⟩ ?_ ?_)
    · clear F2 N2
      intro i ti m₁ news₁ h tk I own hi hJ hoff hown F3 N3
      obtain ⟨t', e1, e2, rfl⟩ := hJ
      rw [canon2 e1 e2] at F3
      have hi0 : 0 ≤ (i : Int) := Int.natCast_nonneg i
      have hi9 : (i : Int) < 9 := hi
      have hiN : i < 9 := by omega
      have hq0 : 0 ≤ (i : Int).fdiv 3 ∧ (i : Int).fdiv 3 ≤ 2 := by rw [Int.fdiv_eq_ediv_of_nonneg _ (by decide)]; omega
      have hm0 : 0 ≤ (i : Int).fmod 3 ∧ (i : Int).fmod 3 ≤ 2 := by rw [Int.fmod_eq_emod_of_nonneg _ (by decide)]; omega
      have hb0 := bit_in (x.fdiv (2 ^ (8 - (i : Int)).toNat))
      have hp0 := rwx_in hm0.1 hm0.2 hb0.1 hb0.2
      have hTl := @sgnTab_len ((i : Int).fdiv 3).toNat (by omega)
      have fin : ∀ {h' : Heap} {tk' : Nat} {m' : Str → Option Value} {t' : Tok} {c : Str} {sA sB : Shared} {big : List (Addr × Obj)}, c = sgn x i → sB = { sA with heap := h', toks := tk' } → Fr s.heap L h' m' → News s.heap L h' big → (∀ q ∈ own, q ∈ big) → m' (Str.ofString "text") = some (.str (sgnText fb x i ++ c) t') → m' (Str.ofString "rights") = some (.int x t) → GEnd s.heap L [I] own (SJ fb x t (i + 1)) sA sB := by
        intro h' tk' m' t' c sA sB big hc hAB F N hs em1 em2
        refine ⟨h', tk', m', [], hAB, F, newsSub N (by simpa using hs), fun q hq => (nomatch hq), t', ?_, em2, rfl⟩
        rw [em1, hc]; rfl
      have hTx := sgnText_len fb x i
      generalize hkv : (i : Int) = kv at *
      k_steps
      · have hA := ‹kv.fmod 3 = 2›
        have hB := ‹(x.fdiv (2 ^ (11 - kv.fdiv 3).toNat)).fmod 2 = 1›
        rename News _ _ _ _ => N4
        refine unhold (KTb.item_list (ws := sgnTab) ⟨_, (N4 _ (.head _)).1, rfl, _, rfl⟩ (.cons _ _ (.cons _ _ (.cons _ _ .nil))) hq0.1 (by show kv.fdiv 3 < 3; omega) (by omega) fun t4 _ => ?_)
        k_steps
        refine unhold (KXi.item (n := 2) hTl (by omega) (by omega) (by decide) fun hl9 => ?_)
        k_steps
        rename News _ _ _ _ => N5
        rename Fr _ _ _ _ => F5
        exact fin (sgn_hi hA hB).symm rfl F5 N5 (by intro q hq; first | exact .tail _ (.tail _ (List.mem_append_left _ hq))) rfl rfl
      · have hA := ‹kv.fmod 3 = 2›
        have hB := ‹¬ (x.fdiv (2 ^ (11 - kv.fdiv 3).toNat)).fmod 2 = 1›
        refine unhold (KXi.item (n := 4) (by decide +kernel) (by omega) (by omega) (by decide) fun hl9 => ?_)
        k_steps
        rename News _ _ _ _ => N5
        rename Fr _ _ _ _ => F5
        exact fin (sgn_lo (fun e => hB e.2)).symm rfl F5 N5 (by intro q hq; first | exact .tail _ (List.mem_append_left _ hq)) rfl rfl
      · have hA := ‹¬ kv.fmod 3 = 2›
        refine unhold (KXi.item (n := 4) (by decide +kernel) (by omega) (by omega) (by decide) fun hl9 => ?_)
        k_steps
        rename News _ _ _ _ => N5
        rename Fr _ _ _ _ => F5
        exact fin (sgn_lo (fun e => hA e.1)).symm rfl F5 N5 (by intro q hq; first | exact .tail _ (List.mem_append_left _ hq)) rfl rfl
    · intro h' tk' m' news' F' N' hJ
      obtain ⟨t', e1, e2, rfl⟩ := hJ
      rw [canon2 e1 e2] at F'
      k_steps
      exact ret _ _ _ (Fr.keep (by assumption)))
end
end Mine
end
section
open PySem PySem.W PyProof.Rows PySem.Calls
set_option maxRecDepth 100000
set_option maxHeartbeats 0
set_option linter.unusedVariables false
namespace Mine
section
variable {w : World} {A : Around} {E : Value → Shared → Prop} {s : Shared} {K : Frag} {p : Program} {loose : List Str} {mean : ExcName → Option Value} {mg mb : Str → Option Value} {Q : Value → Shared → Prop}
/-- a def is entered, some of its names being cells -/
theorem enterC {n : Nat} {kw : List (Str × Value)} {name qual : Str} {params : Arguments} {body : List Stmt} {scope : Scope} {dV kV doc pm cdv ct oc : Value} {an od : Option Addr} {osl : Array (Option Value)} {f : Addr} {args : List Value} {binds : List (Str × Value)}
    (R : Ready K p loose mean mg mb A (n + 1) s.heap)
    (ho : K.lookup f = some ⟨oc, od, .func (fnOf name qual params body scope dV kV doc pm an cdv ct), osl⟩) (hcd : codeIn K cdv qual = true)
    (hbind : BindsTo s (fnOf name qual params body scope dV kV doc pm an cdv ct) ⟨args, kw⟩ binds)
    (hkind : (binds.all fun y => scope.names.lookup y.1 == some .local || scope.names.lookup y.1 == some .cell) = true)
    (hnd : ((cellsFrom 0 scope.names []).map (·.1)).Nodup)
    (h : ∀ dp fr gd un L' h₁ tk cells, dp + n < recursionLimit → un + 100 * n < cLine → (∀ h', Kp s.heap h' → Ready K p loose mean mg mb ⟨none, dp, fr, gd, un⟩ n h') →
      Fr s.heap L' h₁ (bindL (envOfC qual scope L' f cdv).kindOf binds fun _ => none) → News s.heap L' h₁ cells → CellsAre (bindC (envOfC qual scope L' f cdv).kindOf binds fun _ => none) (cellsFrom (L' + 1) scope.names []) cells → K.In s.heap → Top p loose mean mg mb s.heap →
      wpAny (model prog w) ⟨none, dp, fr, gd, un⟩ (execs body (envOfC qual scope L' f cdv))
        (fun fl s' => Back Q (match fl with | .ret v => v | _ => .none) s') (fun _ _ => False)
        { s with heap := h₁, toks := tk })
    (hco : scope.isCoroutine = false) (hgen : scope.isGenerator = false) (hk : scope.kind = .function) : wpAny (model prog w) A (call (.ref f) args kw) Q E s := by
  refine wpAny_call ?_
  obtain ⟨ha, dp, fr, gd, un⟩ := A
  obtain rfl : ha = none := R.hh
  refine codeAny_call_function (by have := R.dep; omega) (R.X _ _ ho) rfl hco hgen rfl (codeRec_of R.X hcd) (hbind _ _ _ _ ?_)
  refine wpAny_newFunctionEnv_cells hk (kindsX hkind _) fun env' he s' x => ?_
  subst he
  refine ⟨R.T.nolimit.keeps x.toInCall.keep, codeAny_func ?_⟩
  obtain ⟨h₁, tk, rfl, _⟩ := x.done
  have hk₁ := x.toInCall.keep
  obtain ⟨cells, NC, Y⟩ := Cl.news (h₀ := s.heap) (Nat.le_refl _) fun n c hm => ⟨x.cell n c (lookup_of_mem_nodup (cellsFrom_names scope.names 0 (s.heap.objs.size + 1) [] [] rfl ▸ hnd) hm), x.above n c hm⟩
  exact wpAny_mono (h _ _ _ _ s.heap.objs.size h₁ tk cells (by have := R.dep; show dp + 1 + n < _; simp only at this; omega) (by have := R.un; show un + 3 + 100 * n < _; simp only at this; omega) (fun h' k => R.deep k) ⟨x.toInCall.ns, hk₁, Nat.le_refl _⟩ NC Y R.X R.T) (fun fl s' hl => hl) fun _ _ y => y.elim
end
section
variable {prog : Program} {w : World} {A : Around} {E : Value → Shared → Prop} {s : Shared} {h₀ : Heap} {L : Addr} {m : Str → Option Value} {env : Env}
theorem compEnd_mono {I : Addr} {oI : Obj} {C : Addr} {oC : Obj} {D : Addr} {oD : Obj} {S : List (Addr × Obj) → Prop} {r r' : Value → List (Addr × Obj) → Prop} {y : Value} {s₂ : Shared} (h : LCg.CompEnd h₀ L m s I oI C oC D oD S r y s₂) (hr : ∀ y n, r y n → r' y n) :
    LCg.CompEnd h₀ L m s I oI C oC D oD S r' y s₂ := let ⟨h', tk, n, a, b, c, d, e, f⟩ := h; ⟨h', tk, n, a, b, c, d, e, hr _ _ f⟩
/-- a comprehension by what holds between its turns -/
theorem compRest_of {elt : Expr} {x : Str} {scope : Scope} {cl : List (Str × Addr)} {S : List (Addr × Obj) → Prop} {P : Nat → Value → Prop} {Fin : List Value → List (Addr × Obj) → Prop} {n : Nat} (J : Nat → List Value → List (Addr × Obj) → Prop)
    (step : ∀ i ys news, i < n → J i ys news → ∀ v I oI C oC D m₂ h tk, P i v → LCg.NsObj oC m₂ → m₂ x = some v → Fr h₀ L h m → News h₀ L h ((I, oI) :: (C, oC) :: (D, LCg.lst ys) :: news) → LCg.Off3 I C D news → ((@Ne Nat I C) ∧ (@Ne Nat I D) ∧ (@Ne Nat C D)) →
      wpAny (model prog w) A (eval elt (compEnvC scope cl C env)) (LCg.CompEnd h₀ L m { s with heap := h, toks := tk } I oI C oC D (LCg.lst ys) S (fun y news' => J (i + 1) (ys ++ [y]) news')) (fun _ _ => False) { s with heap := h, toks := tk })
    (fin : ∀ ys news, J n ys news → Fin ys news) : ∀ k i ys news, i + k = n → J i ys news → LCg.CompRest prog w A h₀ L m env elt x scope cl s S P Fin k i ys news
  | 0, i, ys, news, e, hJ => by
    have : i = n := by omega
    subst this
    exact LCg.CompRest.zero (fin _ _ hJ)
  | k + 1, i, ys, news, e, hJ => by
    refine LCg.CompRest.succ fun v I oI C oC D m₂ h tk E' hP hC hx F N off ne => ?_
    refine wpAny_mono (step i ys news (by omega) hJ v I oI C oC D m₂ h tk hP hC hx F N off ne) (fun y s₂ h₂ => ?_) fun _ _ e => e.elim
    exact compEnd_mono h₂ fun y n hj => compRest_of J step fin k (i + 1) _ _ (by omega) hj
theorem compRange {elt : Expr} {x : Str} {scope : Scope} {cl : List (Str × Addr)} {Fin : Shared → List Value → List (Addr × Obj) → Prop} {n : Int} {t : Tok} {news : List (Addr × Obj)} (hh : A.handled = none) (hn0 : 0 ≤ n) (hn1 : n ≤ 1048576)
    (F : Fr h₀ L s.heap m) (N : News h₀ L s.heap news) (J : Nat → List Value → List (Addr × Obj) → Prop) (h0 : J 0 [] news)
    (step : ∀ (i : Nat) ys news, (i : Int) < n → J i ys news → ∀ t I oI C oC D m₂ h tk, LCg.NsObj oC m₂ → m₂ x = some (.int (i : Nat) t) → Fr h₀ L h m → News h₀ L h ((I, oI) :: (C, oC) :: (D, LCg.lst ys) :: news) → LCg.Off3 I C D news → ((@Ne Nat I C) ∧ (@Ne Nat I D) ∧ (@Ne Nat C D)) →
      wpAny (model prog w) A (eval elt (compEnvC scope cl C env)) (LCg.CompEnd h₀ L m { s with heap := h, toks := tk } I oI C oC D (LCg.lst ys) (fun _ => True) (fun y news' => J (i + 1) (ys ++ [y]) news')) (fun _ _ => False) { s with heap := h, toks := tk })
    (fin : ∀ h tk ys news, J n.toNat ys news → Fin { s with heap := h, toks := tk } ys news) :
    wpAny (model prog w) A (call (.type "range") [.int n t]) (LCg.CompSrc prog w A h₀ L m env elt x scope cl Fin) E s := by
  refine call_range_1 ?_
  refine LCg.CompSrc.range (n := n.toNat) hh (F.push _) (N.grown fun _ _ e => Heap.get?_push_of_some _ e) (IsRange.new _ _ _ _ _ _ _) (small_one (by omega) (by omega) (by omega) (by omega)) ?_ (by simp only [sizeLine]; omega) fun g => ?_
  · rw [rangeSize_one]; split <;> omega
  · refine compRest_of (s := { s with heap := g, toks := s.toks + 1 + 1 }) J (fun i ys news hi hJ v I oI C oC D m₂ h tk hP hC hx F N off ne => ?_) (fun ys news hJ => fin g _ ys news hJ) n.toNat 0 [] news (by omega) h0
    obtain ⟨t', rfl⟩ := hP
    rw [Int.zero_add] at hx
    exact step i ys news (by omega) hJ t' I oI C oC D m₂ h tk hC hx F N off ne
theorem item_listI {value slice : Expr} {l : Addr} {vs : List Value} {ns : List Int} {i : Int} {u : Tok} {Q : Value → Shared → Prop} (hl : s.heap.IsList l vs.toArray) (hw : IntsAre vs ns) (h0 : 0 ≤ i) (h1 : i < (ns.length : Int)) (hfit : i < 2 ^ 63) (h : ∀ t', Q (.int (ns.getD i.toNat 0) t') s)
    (hs : subscripted slice false (.ref l) (.int i u) = operate [.ref l, .int i u] (getItem (.ref l) (.int i u)) := by with_unfolding_all rfl) :
    wpAny (model prog w) A (subscriptTail value slice (.ref l) (.int i u)) Q E s := by
  have hlt : i.toNat < ns.length := by omega
  obtain ⟨t', e⟩ := hw.get i.toNat (ns.getD i.toNat 0) (by rw [List.getD_eq_getElem?_getD, List.getElem?_eq_getElem hlt]; rfl)
  exact tail_any hl.typeIs slot_list_getitem.lookup (wpAny_getItem_list hl h0 hfit (x := .int _ t') (by simpa using e) (h t')) hs
end
end Mine
end
section
open PySem PySem.W PyProof.Rows PySem.Calls
set_option maxRecDepth 100000
set_option maxHeartbeats 0
set_option linter.unusedVariables false
namespace Mine
section
variable {prog : Program} {w : World} {A : Around} {s : Shared} {env : Env} {h₀ : Heap} {Q : Flow → Shared → Prop}
/-- a loop over bytes -/
theorem iterB {target : Expr} {body : List Stmt} {b : Array UInt8} {tb : Tok} {ks : List Int} {m : Str → Option Value} {news : List (Addr × Obj)} (hh : A.handled = none) (hk : KBw.bInts b = ks)
    (F : Fr h₀ env.locals s.heap m) (N : News h₀ env.locals s.heap news) (J : Nat → (Str → Option Value) → List (Addr × Obj) → Prop) (h0 : J 0 m news)
    (step : ∀ (i : Nat) c t m₁ news₁ h tk I own, ks[i]? = some c → J i m₁ news₁ → (∀ p ∈ news₁, p.1 ≠ I) → (∀ p ∈ own, p.1 = I) → Fr h₀ env.locals h m₁ → News h₀ env.locals h (own ++ news₁) →
      wpAny (model prog w) A (assign target env (.int c t)) (fun _ s₁ => wpAny (model prog w) A (execs body env) (GPost h₀ env.locals [I] own (J (i + 1)) s Q) NoE s₁) NoE { s with heap := h, toks := tk })
    (hR : ∀ h' tk m' news', Fr h₀ env.locals h' m' → News h₀ env.locals h' news' → J ks.length m' news' → Q .next { s with heap := h', toks := tk })
    (ht : ∀ I v, letOwnedTupleGo target (.ref I) v = pure () := by intro _ _; rfl) :
    wpAny (model prog w) A (pyIter (.bytes b tb)) (fun it s₂ => codeAny (model prog w) A (.forLoop target it body [] env) (fun r s' => match r with | .ok f => Q f s' | .error e => cameBackBy (model prog w) A env NoE e s') s₂) NoE s := by
  refine KBw.pyIter_bytes ?_
  have W := KBw.walks (prog := prog) (w := w) (A := A) hh s.heap.objs.size b tb
  have hnI : ∀ p ∈ news, p.1 < s.heap.objs.size := fun p hp => Heap.lt_size (N p hp).1
  refine loopG W (m := m) (news := news) ?_ ?_ ?_ ⟨_, Heap.get?_push_size _ rfl, rfl, rfl⟩ (F.push _) (fun p hp => ⟨Heap.get?_push_of_some _ (N p hp).1, (N p hp).2⟩) J h0 ?_ ?_ (ht _)
  · intro hm
    exact absurd F.ns.lt (List.mem_singleton.mp hm ▸ Nat.lt_irrefl _)
  · intro b hb
    rw [List.mem_singleton.mp hb]
    exact next_is_new F
  · intro p hp hI
    exact absurd (hnI p hp) ((List.mem_singleton.mp hI) ▸ Nat.lt_irrefl _)
  · intro i v m₁ news₁ h tk own hi hP hJ hoff hown hmem hst F₁ N₁
    obtain ⟨c, u, hc, rfl⟩ := hP
    exact step i (c.toNat : Int) u m₁ news₁ h tk s.heap.objs.size own (hk ▸ KBw.ints_get hc) hJ (fun p hp e => hoff p hp (by rw [e]; exact List.mem_singleton.mpr rfl)) (fun p hp => List.mem_singleton.mp (hown p hp)) F₁ N₁
  · intro h' tk m' news' F' N' _ hJ
    refine hR h' tk m' news' F' N' ?_
    rw [← hk, KBw.ints_length]; exact hJ
end
end Mine
end
section
open PySem PySem.W PyProof.Rows PySem.Calls
set_option maxRecDepth 100000
set_option maxHeartbeats 0
set_option linter.unusedVariables false
namespace Mine
section
variable {prog : Program} {w : World} {A : Around} {E : Value → Shared → Prop} {s : Shared} {h₀ : Heap} {L : Addr} {m : Str → Option Value} {env : Env}
theorem compRestT_of {ct elt : Expr} {x : Str} {scope : Scope} {cl : List (Str × Addr)} {S : List (Addr × Obj) → Prop} {P : Nat → Value → Prop} {Fin : List Value → List (Addr × Obj) → Prop} {n : Nat} (J : Nat → List Value → List (Addr × Obj) → Prop)
    (step : ∀ i ys news, i < n → J i ys news → ∀ v I oI C oC D m₂ h tk, P i v → LCg.NsObj oC m₂ → m₂ x = some v → Fr h₀ L h m → News h₀ L h ((I, oI) :: (C, oC) :: (D, LCg.lst ys) :: news) → LCg.Off3 I C D news → ((@Ne Nat I C) ∧ (@Ne Nat I D) ∧ (@Ne Nat C D)) →
      wpAny (model prog w) A (isTrue ct (compEnvC scope cl C env) (eval ct (compEnvC scope cl C env))) (fun ok s' => if ok = true then
        wpAny (model prog w) A (eval elt (compEnvC scope cl C env)) (LCg.CompEnd h₀ L m { s with heap := h, toks := tk } I oI C oC D (LCg.lst ys) S (fun y news' => J (i + 1) (ys ++ [y]) news')) (fun _ _ => False) s'
        else LCg.CompEnd h₀ L m { s with heap := h, toks := tk } I oI C oC D (LCg.lst ys) S (fun _ news' => J (i + 1) ys news') Value.none s') (fun _ _ => False) { s with heap := h, toks := tk })
    (fin : ∀ ys news, J n ys news → Fin ys news) : ∀ k i ys news, i + k = n → J i ys news → LCt.CompRestT prog w A h₀ L m env ct elt x scope cl s S P Fin k i ys news
  | 0, i, ys, news, e, hJ => by
    have : i = n := by omega
    subst this
    exact LCt.CompRestT.zero (fin _ _ hJ)
  | k + 1, i, ys, news, e, hJ => by
    refine LCt.CompRestT.succ fun v I oI C oC D m₂ h tk E' hP hC hx F N off ne => ?_
    refine wpAny_mono (step i ys news (by omega) hJ v I oI C oC D m₂ h tk hP hC hx F N off ne) (fun ok s₂ h₂ => ?_) fun _ _ e => e.elim
    by_cases hok : ok = true
    · rw [if_pos hok] at h₂ ⊢
      exact wpAny_mono h₂ (fun y s₃ h₃ => compEnd_mono h₃ fun y n hj => compRestT_of J step fin k (i + 1) _ _ (by omega) hj) fun _ _ e => e.elim
    · rw [if_neg hok] at h₂ ⊢
      exact compEnd_mono h₂ fun y n hj => compRestT_of J step fin k (i + 1) _ _ (by omega) hj
/-- where a comprehension stands behind its iterator -/
def SrcW (prog : Program) (w : World) (A : Around) (h₀ : Heap) (L : Addr) (m : Str → Option Value) (Rest : Nat → (Nat → Value → Prop) → (List (Addr × Obj) → Prop) → List (Addr × Obj) → Shared → Prop) (it : Value) (s₂ : Shared) : Prop :=
  ∃ I n P St news, it = .ref I ∧ Walks prog w A I [I] [I] n P St ∧ n ≤ sizeLine ∧ (∀ i h, St i h → ∃ o, h.get? I = some o) ∧ St 0 s₂.heap ∧ I < s₂.heap.objs.size ∧
    Fr h₀ L s₂.heap m ∧ News h₀ L s₂.heap news ∧ L ≠ I ∧ h₀.get? I = none ∧ (∀ p ∈ news, p.1 ≠ I) ∧ Rest n P (fun _ => True) news s₂
theorem ListComp_W {elt iter : Expr} {x : Str} {px : Pos} {scope : Scope} {cl : List (Str × Addr)} {pos : Pos} {Q : Value → Shared → Prop} (F₀ : Fr h₀ L s.heap m)
    (hclos : closureFor scope env = pure cl) (hcell : ∀ y ∈ scope.names, y.2 ≠ .cell) (hkind : scope.kind = .function)
    (hnames : ∀ y ∈ scope.names, y.2 = .local → scope.names.lookup y.1 = some .local) (hx : scope.names.lookup x = some .local)
    (h : wpAny (model prog w) A (eval iter env) (fun xv s₁ => Hold (wpAny (model prog w) A (pyIter xv) (SrcW prog w A h₀ L m fun n P S news s₂ => LCg.CompRest prog w A h₀ L m env elt x scope cl s₂ S P (LCg.FinE h₀ L m s₂ Q) n 0 [] news) E s₁)) E s)
    (hs : ∀ x, foldedSetIterable iter env x = pure x := by intro _; rfl) :
    wpAny (model prog w) A (eval (.ListComp elt [⟨.Name x px, iter, [], 0⟩] scope pos) env) Q E s := by
  rw [eval_ListComp]
  refine wpAny_comprehension_free (use := none) rfl hs hclos hkind hnames (wpAny_mono h (fun xv s₁ h₁ => ?_) fun _ _ e => e)
  refine wpAny_mono h₁ (fun it s₂ h₂ => ?_) fun _ _ e => e
  obtain ⟨I, n, P, St, news, rfl, W, hsz, hIo, hst, hI, F, N, hLI, hI0, off, R⟩ := h₂
  refine LCg.block_U W hsz hIo (fun i h h' o nw hst e e' _ _ _ => W.frame _ _ _ hst fun b hb o' q => by rw [List.mem_singleton.mp hb] at q ⊢; rw [e] at q; cases q; exact e') hcell hkind hx hst (fun b hb => by rw [List.mem_singleton.mp hb]; exact hI) F N hLI hI0 off trivial R ?_
  intro D C h tk m' ys news' F' N' o1 hn hC₀ hD₀ hCL hDL hCD offC fin
  refine ⟨m', hn, fun h'' hs'' => fin D h'' tk (F'.change hs'' hCL hC₀) (fun p hp => ?_) o1⟩
  refine ⟨hs''.extBut _ _ ?_ (N' p hp).1, (N' p hp).2⟩
  rcases List.mem_cons.mp hp with rfl | hp
  · exact Ne.symm hCD
  · exact offC p hp
theorem ListComp_WT {ct elt iter : Expr} {x : Str} {px : Pos} {scope : Scope} {cl : List (Str × Addr)} {pos : Pos} {Q : Value → Shared → Prop} (F₀ : Fr h₀ L s.heap m)
    (hclos : closureFor scope env = pure cl) (hcell : ∀ y ∈ scope.names, y.2 ≠ .cell) (hkind : scope.kind = .function)
    (hnames : ∀ y ∈ scope.names, y.2 = .local → scope.names.lookup y.1 = some .local) (hx : scope.names.lookup x = some .local)
    (h : wpAny (model prog w) A (eval iter env) (fun xv s₁ => Hold (wpAny (model prog w) A (pyIter xv) (SrcW prog w A h₀ L m fun n P S news s₂ => LCt.CompRestT prog w A h₀ L m env ct elt x scope cl s₂ S P (LCg.FinE h₀ L m s₂ Q) n 0 [] news) E s₁)) E s)
    (hs : ∀ x, foldedSetIterable iter env x = pure x := by intro _; rfl) :
    wpAny (model prog w) A (eval (.ListComp elt [⟨.Name x px, iter, [ct], 0⟩] scope pos) env) Q E s := by
  rw [eval_ListComp]
  refine wpAny_comprehension_free (use := none) rfl hs hclos hkind hnames (wpAny_mono h (fun xv s₁ h₁ => ?_) fun _ _ e => e)
  refine wpAny_mono h₁ (fun it s₂ h₂ => ?_) fun _ _ e => e
  obtain ⟨I, n, P, St, news, rfl, W, hsz, hIo, hst, hI, F, N, hLI, hI0, off, R⟩ := h₂
  refine LCt.block_T W hsz hIo (fun i h h' o nw hst e e' _ _ _ => W.frame _ _ _ hst fun b hb o' q => by rw [List.mem_singleton.mp hb] at q ⊢; rw [e] at q; cases q; exact e') hcell hkind hx hst (fun b hb => by rw [List.mem_singleton.mp hb]; exact hI) F N hLI hI0 off trivial R ?_
  intro D C h tk m' ys news' F' N' o1 hn hC₀ hD₀ hCL hDL hCD offC fin
  refine ⟨m', hn, fun h'' hs'' => fin D h'' tk (F'.change hs'' hCL hC₀) (fun p hp => ?_) o1⟩
  refine ⟨hs''.extBut _ _ ?_ (N' p hp).1, (N' p hp).2⟩
  rcases List.mem_cons.mp hp with rfl | hp
  · exact Ne.symm hCD
  · exact offC p hp
/-- the turns of a range -/
theorem srcRange {Rest : Nat → (Nat → Value → Prop) → (List (Addr × Obj) → Prop) → List (Addr × Obj) → Shared → Prop} {r : Addr} {a b c : Int} {t u v : Tok} {n : Nat} {news : List (Addr × Obj)} (hh : A.handled = none) (F : Fr h₀ L s.heap m) (N : News h₀ L s.heap news)
    (hr : IsRange s.heap r a b c t u v) (hsm : Builtin.Range.small a b c = true) (hn : Builtin.Range.rangeSize a b c = ((n : Nat) : Int)) (hsz : n ≤ sizeLine)
    (h : ∀ h', Rest n (fun i v => ∃ t, v = .int (a + (i : Nat) * c) t) (fun _ => True) news { s with heap := h' }) :
    wpAny (model prog w) A (pyIter (.ref r)) (SrcW prog w A h₀ L m Rest) E s := by
  refine wpAny_pyIter_range hr hsm ?_
  refine ⟨s.heap.objs.size, n, _, _, news, rfl, Walks.range hh _ a c n, hsz, fun i h st => ⟨_, st⟩, ?_, ?_, F.keeps fun _ _ e => Heap.get?_push_of_some _ e, N.grown fun _ _ e => Heap.get?_push_of_some _ e, Nat.ne_of_lt F.ns.lt, next_is_new F, fun p hp => Nat.ne_of_lt (Heap.lt_size (N p hp).1), h _⟩
  · show IsRangeIter _ _ _ _ _
    rw [hn]; simpa using Heap.get?_push_size _ rfl
  · show s.heap.objs.size < (s.heap.push _).objs.size
    rw [Heap.size_push]; exact Nat.lt_succ_self _
/-- the turns of a text -/
theorem srcStr {Rest : Nat → (Nat → Value → Prop) → (List (Addr × Obj) → Prop) → List (Addr × Obj) → Shared → Prop} {x : Str} {t : Tok} {news : List (Addr × Obj)} (hh : A.handled = none) (F : Fr h₀ L s.heap m) (N : News h₀ L s.heap news)
    (ha : x.cps.all (· < 128) = true) (hsz : x.cps.size ≤ sizeLine)
    (h : ∀ h', Rest x.cps.size (SignAt x) (fun _ => True) news { s with heap := h' }) :
    wpAny (model prog w) A (pyIter (.str x t)) (SrcW prog w A h₀ L m Rest) E s := by
  refine wpAny_pyIter_ascii ha ?_
  refine ⟨s.heap.objs.size, _, _, _, news, rfl, Walks.strAscii hh _ x t, hsz, fun i h st => (let ⟨o, e, _⟩ := st; ⟨o, e⟩), ⟨_, Heap.get?_push_size _ rfl, rfl, rfl⟩, ?_, F.keeps fun _ _ e => Heap.get?_push_of_some _ e, N.grown fun _ _ e => Heap.get?_push_of_some _ e, Nat.ne_of_lt F.ns.lt, next_is_new F, fun p hp => Nat.ne_of_lt (Heap.lt_size (N p hp).1), h _⟩
  show s.heap.objs.size < (s.heap.push _).objs.size
  rw [Heap.size_push]; exact Nat.lt_succ_self _
end
end Mine
end
section
open PySem PySem.W PyProof.Rows PySem.Calls
set_option maxRecDepth 100000
set_option maxHeartbeats 0
set_option linter.unusedVariables false
namespace Mine
abbrev Led := List (Addr × Obj)
/-- the two tables, and the rest of a ledger -/
abbrev tabs (p1 p2 : Array Value) (M : Led) : Led := (72, tabObj p1) :: (89, tabObj p2) :: M
abbrev Apart (M : Led) : Prop := ∀ q ∈ M, q.1 ≠ 72 ∧ q.1 ≠ 89
abbrev Fresh (h h' : Heap) (made : Led) : Prop := ∀ q ∈ made, h'.get? q.1 = some q.2 ∧ h.get? q.1 = none
section
variable {G B h h' : Heap} {L : Addr} {m : Str → Option Value} {news M made : Led} {p1 p2 : Array Value}
theorem sitsOf (kG : Kp G B) (F : Fr B L h m) (N : News B L h (tabs p1 p2 M)) (t1 : TriplesOk p1.toList) (t2 : TriplesOk p2.toList) : Sits G h :=
  ⟨kpOf kG F, ⟨p1, (N _ (.head _)).1, t1⟩, ⟨p2, (N _ (.tail _ (.head _))).1, t2⟩⟩
theorem fresh_ne {q p : Addr × Obj} (hq : h.get? q.1 = none) (hp : h.get? p.1 = some p.2) : q.1 ≠ p.1 := fun e => by rw [e, hp] at hq; cases hq
theorem fresh_news (F : Fr B L h m) (k : ∀ b o, b ≠ 72 → b ≠ 89 → h.get? b = some o → h'.get? b = some o) (hf : Fresh h h' made) : News B L h' made := fun q hq => by
  obtain ⟨a, b⟩ := hf q hq
  refine ⟨a, fun e => ?_, ?_⟩
  · obtain ⟨o, _, _, hL, _⟩ := F.ns
    rw [e, hL] at b; cases b
  · cases hB : B.get? q.1 with
    | none => rfl
    | some o => rw [F.keep _ _ hB] at b; cases b
/-- behind a call that keeps all -/
theorem addMade (F : Fr B L h m) (N : News B L h news) (k : Kp h h') (hf : Fresh h h' made) : Fr B L h' m ∧ News B L h' (made ++ news) ∧ ∀ q ∈ made, ∀ p ∈ news, q.1 ≠ p.1 :=
  ⟨frKp F k, (fresh_news F (k.two) hf).append (newsKp N k), fun q hq p hp => fresh_ne (hf q hq).2 (N p hp).1⟩
/-- behind a call that changes the tables -/
theorem addMade2 (F : Fr B L h m) (N : News B L h (tabs p1 p2 M)) (hM : Apart M) (hB1 : B.get? 72 = none) (hB2 : B.get? 89 = none) (S : Sits G h') (k : Kp2 h h') (hf : Fresh h h' made) :
    Fr B L h' m ∧ ∃ p1' p2', News B L h' (tabs p1' p2' (made ++ M)) ∧ TriplesOk p1'.toList ∧ TriplesOk p2'.toList ∧ ∀ q ∈ made, ∀ p ∈ tabs p1 p2 M, q.1 ≠ p.1 := by
  have hL1 := (N _ (.head _)).2.1
  have hL2 := (N _ (.tail _ (.head _))).2.1
  refine ⟨⟨F.ns.at' fun o e => k _ o (Ne.symm hL1) (Ne.symm hL2) e, fun b o e => k b o (fun q => by rw [q, hB1] at e; cases e) (fun q => by rw [q, hB2] at e; cases e) (F.keep b o e), F.above⟩, ?_⟩
  obtain ⟨⟨q1, a1, b1⟩, ⟨q2, a2, b2⟩⟩ := And.intro S.t1 S.t2
  have NM := fresh_news F k hf
  refine ⟨q1, q2, fun q hq => ?_, b1, b2, fun q hq p hp => fresh_ne (hf q hq).2 (N p hp).1⟩
  rcases List.mem_cons.mp hq with rfl | hq
  · exact ⟨a1, hL1, hB1⟩
  rcases List.mem_cons.mp hq with rfl | hq
  · exact ⟨a2, hL2, hB2⟩
  rcases List.mem_append.mp hq with hq | hq
  · exact NM q hq
  · have z := N q (.tail _ (.tail _ hq))
    exact ⟨k _ _ (hM q hq).1 (hM q hq).2 z.1, z.2⟩
end
/-- a turn's end -/
inductive EndT (B : Heap) (L : Addr) (m : Str → Option Value) (s₁ : Shared) (I : Addr) (oI : Obj) (C : Addr) (oC : Obj) (D : Addr) (ys : List Value) (M' : Led) (d : Dat) (y : Value) (s₂ : Shared) : Prop
  | intro : ∀ h' tk M2 p1 p2, (s₂ = { s₁ with heap := h', toks := tk }) → (Fr B L h' m) → (News B L h' ((I, oI) :: (C, oC) :: (D, LCg.lst ys) :: tabs p1 p2 M2)) → (TriplesOk p1.toList) → (TriplesOk p2.toList) → ((∀ q ∈ M2, (q.1 ≠ 72 ∧ q.1 ≠ 89) ∧ q.1 ≠ I ∧ q.1 ≠ C ∧ q.1 ≠ D)) → ((∀ q ∈ M', q ∈ M2)) → (DatIn M2 y d) → EndT B L m s₁ I oI C oC D ys M' d y s₂
section
variable {prog : Program} {w : World} {A : Around} {E : Value → Shared → Prop} {s : Shared} {B : Heap} {L : Addr} {m : Str → Option Value} {env : Env}
theorem listCompT {elt : Expr} {x : Str} {scope : Scope} {cl : List (Str × Addr)} {Q : Value → Shared → Prop} {M : Led} {ax : Addr} {its : List Value} {n : Nat} {p1 p2 : Array Value} (hh : A.handled = none) (F : Fr B L s.heap m) (N : News B L s.heap (tabs p1 p2 M)) (t1 : TriplesOk p1.toList) (t2 : TriplesOk p2.toList) (hM : Apart M)
    (hm : (ax, W.listOf its.toArray n) ∈ M) (hsz : its.length ≤ 1000) (fs : List Dat) (hfs : fs.length = its.length)
    (step : ∀ (i : Nat) v d ys M' p1 p2 I oI C oC D m₂ h tk, its[i]? = some v → fs[i]? = some d → LCg.NsObj oC m₂ → m₂ x = some v → Fr B L h m → News B L h ((I, oI) :: (C, oC) :: (D, LCg.lst ys) :: tabs p1 p2 M') → TriplesOk p1.toList → TriplesOk p2.toList →
      (∀ q ∈ M', (q.1 ≠ 72 ∧ q.1 ≠ 89) ∧ q.1 ≠ I ∧ q.1 ≠ C ∧ q.1 ≠ D) → (∀ q ∈ M, q ∈ M') → (@Ne Nat I C ∧ @Ne Nat I D ∧ @Ne Nat C D ∧ @Ne Nat 72 I ∧ @Ne Nat 72 C ∧ @Ne Nat 72 D ∧ @Ne Nat 89 I ∧ @Ne Nat 89 C ∧ @Ne Nat 89 D) →
      wpAny (model prog w) A (eval elt (compEnvC scope cl C env)) (EndT B L m { s with heap := h, toks := tk } I oI C oC D ys M' d) NoE { s with heap := h, toks := tk })
    (fin : ∀ h tk D ys M' p1 p2, Fr B L h m → News B L h (tabs p1 p2 M') → TriplesOk p1.toList → TriplesOk p2.toList → Apart M' → (∀ q ∈ M, q ∈ M') → (D, W.listOf (List.toArray ys) ys.length) ∈ M' → DatAll M' ys fs → Q (.ref D) { s with heap := h, toks := tk }) :
    LCg.CompSrc prog w A B L m env elt x scope cl (fun s₂ => LCg.FinE B L m s₂ Q) (.ref ax) s := by
  refine LCg.CompSrc.ledger hh F N (its := its.toArray) (k := n) (.tail _ (.tail _ hm)) (by rw [List.size_toArray]; simp only [sizeLine]; omega) fun g => ?_
  refine compRest_of (n := its.toArray.size) (fun i ys nw => ∃ p1 p2 M', nw = tabs p1 p2 M' ∧ TriplesOk p1.toList ∧ TriplesOk p2.toList ∧ Apart M' ∧ (∀ q ∈ M, q ∈ M') ∧ DatAll M' ys (fs.take i)) ?_ ?_ its.toArray.size 0 [] _ (by omega) ⟨p1, p2, M, rfl, t1, t2, hM, fun _ h => h, .nil⟩
  · rintro i ys nw hi ⟨q1, q2, M', rfl, h1, h2, hM', hs, hD⟩ v I oI C oC D m₂ h tk hP hC hx F₁ N₁ off ne
    have hv : its[i]? = some v := by simpa using hP
    have hil : i < its.length := by simpa using hi
    have hd : fs[i]? = some (fs[i]'(by omega)) := List.getElem?_eq_getElem (by omega)
    have off' := off.mem
    obtain ⟨o1, o2, o3⟩ := off' _ (.head _)
    obtain ⟨o4, o5, o6⟩ := off' _ (.tail _ (.head _))
    refine wpAny_mono (step i v _ ys M' q1 q2 I oI C oC D m₂ h tk hv hd hC hx F₁ N₁ h1 h2 (fun q hq => ⟨hM' q hq, off' q (.tail _ (.tail _ hq))⟩) hs ⟨ne.1, ne.2.1, ne.2.2, o1, o2, o3, o4, o5, o6⟩) (fun y s₂ hE => ?_) fun _ _ e => e
    obtain ⟨h', tk', M2, r1, r2, rfl, F₂, N₂, u1, u2, hM2, hs2, hDy⟩ := hE
    refine ⟨h', tk', tabs r1 r2 M2, rfl, F₂, N₂, LCg.Off3.of fun q hq => ?_, .inr ⟨_, .tail _ (.tail _ (hs2 _ (hs _ hm))), rfl, _, rfl⟩, r1, r2, M2, rfl, u1, u2, fun q hq => (hM2 q hq).1, fun q hq => hs2 q (hs q hq), ?_⟩
    · rcases List.mem_cons.mp hq with rfl | hq
      · exact ⟨o1, o2, o3⟩
      rcases List.mem_cons.mp hq with rfl | hq
      · exact ⟨o4, o5, o6⟩
      · exact (hM2 q hq).2
    · rw [List.take_add_one, hd]
      exact (hD.mono hs2).append (.one hDy)
  · rintro ys nw ⟨q1, q2, M', rfl, h1, h2, hM', hs, hD⟩ D h' tk' F' N' o1
    rw [List.take_of_length_le (by rw [List.size_toArray]; omega)] at hD
    have e1 : ∀ q ∈ tabs q1 q2 M', q.1 ≠ D := by
      intro q hq
      have : ∀ {l : Led}, LCg.Off1 D l → ∀ q ∈ l, q.1 ≠ D := by
        intro l
        induction l with
        | nil => intro _ q hq; cases hq
        | cons a l ih =>
          intro h q hq
          rcases List.mem_cons.mp hq with rfl | hq
          · exact h.1
          · exact ih h.2 q hq
      exact this o1 q hq
    refine fin h' tk' D ys ((D, W.listOf (List.toArray ys) ys.length) :: M') q1 q2 F' ?_ h1 h2 ?_ (fun q hq => .tail _ (hs q hq)) (.head _) (hD.mono fun _ h => .tail _ h)
    · intro q hq
      rcases List.mem_cons.mp hq with rfl | hq
      · exact N' _ (.tail _ (.head _))
      rcases List.mem_cons.mp hq with rfl | hq
      · exact N' _ (.tail _ (.tail _ (.head _)))
      rcases List.mem_cons.mp hq with rfl | hq
      · exact N' _ (.head _)
      · exact N' _ (.tail _ (.tail _ (.tail _ hq)))
    · intro q hq
      rcases List.mem_cons.mp hq with rfl | hq
      · exact ⟨Ne.symm (e1 _ (.head _)), Ne.symm (e1 _ (.tail _ (.head _)))⟩
      · exact hM' q hq
end
end Mine
end
section
open PySem PySem.W PyProof.Rows PySem.Calls
set_option maxRecDepth 100000
set_option maxHeartbeats 0
set_option linter.unusedVariables false
namespace Mine
section
variable {prog : Program} {w : World} {A : Around} {s : Shared} {env : Env} {h₀ : Heap} {Q : Flow → Shared → Prop}
/-- a loop over zip of two lists -/
theorem iterZ {elts : List Expr} {kt : Nat} {tp : Pos} {body : List Stmt} {l1 l2 : Addr} {vs1 vs2 : List Value} {m : Str → Option Value} {news : List (Addr × Obj)} (hh : A.handled = none) (hl1 : s.heap.IsList l1 vs1.toArray) (hl2 : s.heap.IsList l2 vs2.toArray) (hL1 : l1 ≠ env.locals) (hL2 : l2 ≠ env.locals)
    (F : Fr h₀ env.locals s.heap m) (N : News h₀ env.locals s.heap news) (J : Nat → (Str → Option Value) → List (Addr × Obj) → Prop) (h0 : J 0 m news)
    (step : ∀ (i : Nat) x y T m₁ news₁ h tk wr own, vs1[i]? = some x → vs2[i]? = some y → J i m₁ news₁ → (∀ p ∈ news₁, p.1 ∉ wr) → IsTup h T #[x, y] → Fr h₀ env.locals h m₁ → News h₀ env.locals h (own ++ news₁) →
      wpAny (model prog w) A (assign (.Tuple elts kt tp) env (.ref T)) (fun _ s₁ => wpAny (model prog w) A (execs body env) (GPost h₀ env.locals wr own (J (i + 1)) s Q) NoE s₁) NoE { s with heap := h, toks := tk })
    (hR : ∀ h' tk m' news', Fr h₀ env.locals h' m' → News h₀ env.locals h' news' → J (min vs1.length vs2.length) m' news' → Q .next { s with heap := h', toks := tk }) :
    wpAny (model prog w) A (call (.type "zip") [.ref l1, .ref l2]) (fun xv s₁ => Hold (wpAny (model prog w) A (pyIter xv) (fun it s₂ => codeAny (model prog w) A (.forLoop (.Tuple elts kt tp) it body [] env) (fun r s' => match r with | .ok f => Q f s' | .error e => cameBackBy (model prog w) A env NoE e s') s₂) NoE s₁)) NoE s := by
  have a1 : l1 < s.heap.objs.size := by obtain ⟨_, e, _⟩ := hl1; exact Heap.lt_size e
  have a2 : l2 < s.heap.objs.size := by obtain ⟨_, e, _⟩ := hl2; exact Heap.lt_size e
  have hLlt : env.locals < s.heap.objs.size := F.ns.lt
  refine call_zip_2 hl1 hl2 fun h' hz hTI hTO hi1 hi2 hsz hk => unhold ?_
  refine wpAny_pyIter_zip hz ?_
  have above : ∀ j, h₀.get? (s.heap.objs.size + j) = none := fun j => Heap.get?_none_of_le (Nat.le_trans F.above (Nat.le_of_lt (Nat.lt_of_lt_of_le hLlt (Nat.le_add_right _ j))))
  have W := WalksT.zip2 (prog := prog) (w := w) (A := A) hh _ _ _ _ _ _ _ (zipApart_new a1 a2) vs1.toArray vs2.toArray
  rw [show vs1.toArray.size = vs1.length from List.size_toArray .., show vs2.toArray.size = vs2.length from List.size_toArray ..] at W
  generalize hn : s.heap.objs.size = n at *
  refine loopT W (m := m) (news := news) ?_ ?_ ?_ ⟨hz, hTI, ⟨_, _, hTO⟩, hi1, hi2, hl1.at fun o e => hk _ o e, hl2.at fun o e => hk _ o e⟩ (frKp F hk) (newsKp N hk) J h0 ?_ ?_
  · intro hm
    have ne : ∀ j, env.locals ≠ n + j := fun j => Nat.ne_of_lt (Nat.lt_of_lt_of_le hLlt (Nat.le_add_right _ j))
    simp only [List.mem_cons, List.not_mem_nil, or_false] at hm
    rcases hm with q | q | q | q | q | q | q
    · exact ne 4 q
    · exact ne 2 q
    · exact ne 3 q
    · exact ne 0 q
    · exact ne 1 q
    · exact hL1 q.symm
    · exact hL2 q.symm
  · intro b hb
    simp only [List.mem_cons, List.not_mem_nil, or_false] at hb
    rcases hb with q | q | q | q
    · rw [q]; exact above 4
    · rw [q]; exact above 3
    · rw [q]; exact above 0
    · rw [q]; exact above 1
  · intro p hp hb
    have hlt : p.1 < n := hn ▸ Heap.lt_size (N p hp).1
    have ne : ∀ j, p.1 ≠ n + j := fun j => Nat.ne_of_lt (Nat.lt_of_lt_of_le hlt (Nat.le_add_right _ j))
    simp only [List.mem_cons, List.not_mem_nil, or_false] at hb
    rcases hb with q | q | q | q
    · exact ne 4 q
    · exact ne 3 q
    · exact ne 0 q
    · exact ne 1 q
  · intro i T vals m₁ news₁ h tk own hi hP hJ hoff hown hmem hst hT F₁ N₁
    obtain ⟨x, y, hx, hy, rfl⟩ := hP
    exact step i x y T m₁ news₁ h tk _ own (by simpa using hx) (by simpa using hy) hJ hoff hT F₁ N₁
  · intro h' tk m' news' F' N' _ hJ
    exact hR h' tk m' news' F' N' hJ
/-- data of one make are equal -/
theorem ne_same {E : Value → Shared → Prop} {Q : Value → Shared → Prop} {B : Heap} {L a b : Addr} {news : List (Addr × Obj)} {ds : List Dat} (N : News B L s.heap news) (Da : DatIn news (.ref a) (.list ds)) (Db : DatIn news (.ref b) (.list ds)) (hok : ∀ d ∈ ds, kqdOk 8 d = true) (hu : A.units + 64 < cLine) (h : Q (.bool false) s) :
    wpAny (model prog w) A (compareOp .NotEq (.ref a) (.ref b)) Q E s := by
  obtain ⟨_, vs, n, e, hm, hD⟩ := datList Da
  cases e
  obtain ⟨_, vs', n', e', hm', hD'⟩ := datList Db
  cases e'
  refine kqd_ne N hm rfl rfl hD (fun _ h => h) hm' rfl rfl hD' (fun _ h => h) hok hok hu ?_
  simpa using h
theorem eq_same {E : Value → Shared → Prop} {Q : Value → Shared → Prop} {B : Heap} {L a b : Addr} {news : List (Addr × Obj)} {ds : List Dat} (N : News B L s.heap news) (Da : DatIn news (.ref a) (.list ds)) (Db : DatIn news (.ref b) (.list ds)) (hok : ∀ d ∈ ds, kqdOk 8 d = true) (hu : A.units + 64 < cLine) (h : Q (.bool true) s) :
    wpAny (model prog w) A (compareOp .Eq (.ref a) (.ref b)) Q E s := by
  obtain ⟨_, vs, n, e, hm, hD⟩ := datList Da
  cases e
  obtain ⟨_, vs', n', e', hm', hD'⟩ := datList Db
  cases e'
  refine kqd_eq N hm rfl rfl hD (fun _ h => h) hm' rfl rfl hD' (fun _ h => h) hok hok hu ?_
  simpa using h
end
end Mine
end
section
open PySem PySem.W PyProof.Rows PySem.Calls
set_option maxRecDepth 100000
set_option maxHeartbeats 0
set_option rowWalk.seconds 0
set_option linter.unusedSimpArgs false
set_option linter.unusedVariables false
namespace Mine
local macro_rules | `(tactic| walk_at "exec For Name Name cons nil") => `(tactic| (refine For_G ?_))
local macro_rules | `(tactic| walk_at "truthy str") => `(tactic| (k_here; (first | refine tru_txt (by assumption) (by assumption) ?_ | refine fal_txt (by assumption) ?_); intro k9))
local macro_rules | `(tactic| walk_at "truthy ref") => `(tactic| (refine hold ?_))
local macro_rules | `(tactic| walk_at "getMethod ref") => `(tactic| (k_here; (with_reducible show wpAny _ _ (getMethod (Value.ref _) (PySem.Str.ofString "search") _) _ _ _); (first | refine patMethod (pat_token (by k_in)) slot_re_Pattern_search type_re_Pattern_search ?_ | refine patMethod (pat_quoted (by k_in)) slot_re_Pattern_search type_re_Pattern_search ?_ | refine patMethod (pat_value (by k_in)) slot_re_Pattern_search type_re_Pattern_search ?_)))
local macro_rules | `(tactic| walk_at "getMethod ref") => `(tactic| (k_here; (with_reducible show wpAny _ _ (getMethod (Value.ref _) (PySem.Str.ofString "sub") _) _ _ _); (refine patMethod (pat_escape (by k_in)) slot_re_Pattern_sub type_re_Pattern_sub ?_)))
local macro_rules | `(tactic| walk_at "getMethod ref") => `(tactic| (k_here; (with_reducible show wpAny _ _ (getMethod (Value.ref _) (PySem.Str.ofString "subn") _) _ _ _); (refine patMethod (pat_twin (by k_in)) slot_re_Pattern_subn type_re_Pattern_subn ?_)))
local macro_rules | `(tactic| walk_at "getMethod ref") => `(tactic| (k_here; (with_reducible show wpAny _ _ (getMethod (Value.ref _) (PySem.Str.ofString "group") _) _ _ _); (refine matchMethod (News.get (by k_asm) (by k_mem)) slot_re_Match_group type_re_Match_group ?_)))
local macro_rules | `(tactic| walk_at "call builtin:re.Pattern.search") => `(tactic| (refine hold ?_))
local macro_rules | `(tactic| walk_at "call builtin:re.Pattern.sub") => `(tactic| (refine hold ?_))
local macro_rules | `(tactic| walk_at "call builtin:re.Pattern.subn") => `(tactic| (refine hold ?_))
local macro_rules | `(tactic| walk_at "call builtin:re.Match.group") => `(tactic| (refine hold ?_))
local macro_rules | `(tactic| walk_at "call builtin:list.append") => `(tactic| (refine hold ?_))
local macro_rules | `(tactic| walk_at "call builtin:str.rstrip") => `(tactic| (refine hold ?_))
local macro_rules | `(tactic| walk_at "call builtin:str.lstrip") => `(tactic| (refine hold ?_))
local macro_rules | `(tactic| walk_at "call builtin:str.startswith") => `(tactic| (refine hold ?_))
local macro_rules | `(tactic| walk_at "call ref") => `(tactic| (refine hold ?_))
local macro_rules | `(tactic| walk_at "eval Lambda") => `(tactic| (refine hold ?_))
local macro_rules | `(tactic| walk_at "exec While Name cons nil") => `(tactic| (refine hold ?_))
/-- what holds between the turns of the outer loop -/
inductive OSt (texts : List (List (List Pr))) (i : Nat) (m : Str → Option Value) (news : List (Addr × Obj)) : Prop
  | intro : ∀ r rits nr ps made, (m (Str.ofString "result") = some (.ref r)) → (news = (r, W.listOf (List.toArray rits) nr) :: (72, tabObj ps) :: made) → (TriplesOk ps.toList) → (r ≠ 72) → ((∀ q ∈ made, q.1 ≠ r ∧ q.1 ≠ 72)) → (DatAll made rits ((texts.take i).flatten.map rowDat)) → OSt texts i m news
/-- what holds between the turns of the inner loop -/
inductive WSt (own : List (Addr × Obj)) (I : Addr) (prev target : List (List Pr)) (n : Nat) (m : Str → Option Value) (news : List (Addr × Obj)) : Prop
  | intro : ∀ r rits nr ps made pa pits np x t done cur, (m (Str.ofString "text") = some (.str (txt x) t)) → (m (Str.ofString "pairs") = some (.ref pa)) → (m (Str.ofString "result") = some (.ref r)) → (news = (pa, W.listOf (List.toArray pits) np) :: (r, W.listOf (List.toArray rits) nr) :: (72, tabObj ps) :: (made ++ own)) → (TriplesOk ps.toList) → (r ≠ 72) → (pa ≠ 72) → (pa ≠ r) → (pa ≠ I) → (r ≠ I) → (I ≠ 72) → ((∀ q ∈ made, q.1 ≠ r ∧ q.1 ≠ 72 ∧ q.1 ≠ pa ∧ q.1 ≠ I)) → (DatAll made rits ((prev ++ done).map rowDat)) → (DatAll made pits (cur.map pairDat)) → (Todo target done cur x) → (n = x.length) → (x.length ≤ 1000000) → (pits.length + x.length ≤ 1000000) → (rits.length + x.length ≤ 2000000) → WSt own I prev target n m news
section
variable {w : World} {A : Around} {E : Value → Shared → Prop} {s : Shared} {p : Program} {loose : List Str} {mean : ExcName → Option Value} {mg mb : Str → Option Value} {Q : Value → Shared → Prop} {G : Heap}
theorem c_split (g : Ghost (Mine.hd.heap_1 w.params) p loose mean mg mb G) (S : Sits G s.heap) (R : Ready (Mine.hd.heap_1 w.params) p loose mean mg mb A 6 s.heap) {hv : Addr} {vs : List Value} {texts : List (List (List Pr))}
    (hl : s.heap.IsList hv vs.toArray) (hs : StrsAre vs (texts.map fun t => txt (headText t))) (hg : ∀ t ∈ texts, t ≠ [] ∧ ∀ r ∈ t, GoodR r) (hlen : ∀ t ∈ texts, (headText t).length ≤ 1000000) (hn : texts.flatten.length < 1000)
    (ret : ∀ v h' tk made, Sits G h' → Kp2 s.heap h' → (∀ q ∈ made, h'.get? q.1 = some q.2 ∧ s.heap.get? q.1 = none) → DatIn made v (Dat.list (texts.flatten.map rowDat)) → Q v { s with heap := h', toks := tk }) :
    On PySem.Challenge.rw_qh0025_01 Mine.hd.heap_1 (wpAny (model prog w) A (call (.ref 77) [.ref hv]) Q E s) := by
  k_fill
  unfold On
  k_dflt (refine' enter (n := 5) R ?k6 ?k7 ?k9 ?kB ?_ ?c2 ?c3 ?c4 ?c5; (case k6 => k_is); (case k7 => k_is); (case k9 => exact BindsTo.of_eq rfl); (case c5 => decide); (case kB => exact locs rfl); (case c2 => exact rfl); (case c3 => exact rfl); (case c4 => exact rfl))
  intro dp fr gd un L h1 hdp hun R1 F0 N0 X0 T0
  obtain ⟨ps0, hP0, ht0⟩ := S.t1
  have kG : Kp G (hideAll s.heap [72]) := hide_kp S.k (by intro b hb; rw [List.mem_singleton.mp hb]; exact g.n1)
  have F1 := hide_fr (ts := [72]) F0
  have X1 := g.X.keeps kG
  have T1 := g.T.keeps kG
  have C1 := g.C1.keeps kG
  have hv72 : hv ≠ 72 := fun e => by
    obtain ⟨o, ho, hc, _⟩ := hl
    rw [e, hP0] at ho; cases ho; cases hc
  have hl1 : (hideAll s.heap [72]).IsList hv vs.toArray := hl.at fun o e => hideAll_get _ e (fun hm => hv72 (List.mem_singleton.mp hm))
  have kB : ∀ b o, b ≠ 72 → s.heap.get? b = some o → (hideAll s.heap [72]).get? b = some o := fun b o hb e => hideAll_get _ e (fun hm => hb (List.mem_singleton.mp hm))
  have N1 : News (hideAll s.heap [72]) L h1 [(72, tabObj ps0)] := by
    intro q hq
    rw [List.mem_singleton.mp hq]
    exact ⟨F0.keep _ _ hP0, Nat.ne_of_lt (Nat.lt_of_lt_of_le (Heap.lt_size hP0) F0.above), hideAll_none _ (List.mem_singleton.mpr rfl)⟩
  have hsz : (hideAll s.heap [72]).objs.size = s.heap.objs.size := hideAll_size _ _
  have hBL : L ≠ hv := fun e => by
    obtain ⟨o, ho, _⟩ := hl
    exact absurd (Heap.lt_size ho) (by rw [← e]; exact Nat.not_lt.mpr F0.above)
  have R2 : ∀ h', Kp (hideAll s.heap [72]) h' → Ready (Mine.hd.heap_1 w.params) p loose mean mg mb ⟨none, dp, fr, gd, un⟩ 5 h' := fun h' k => ⟨X1.keeps k, T1.keeps k, hdp, hun, rfl⟩
  have hL72 : L ≠ 72 := Nat.ne_of_gt (Nat.lt_of_lt_of_le (Heap.lt_size hP0) F0.above)
  have hB72 : (hideAll s.heap [72]).get? 72 = none := hideAll_none _ (List.mem_singleton.mpr rfl)
  clear F0 N0 X0 T0
  generalize hideAll s.heap [72] = B at *
  (try dsimp only)
  k_steps
  refine unhold ?_
  rename Fr _ _ _ _ => F2
  rename News _ _ _ _ => N2
  refine iterG (J := OSt texts) rfl (hl1.at fun o e => F2.keep _ _ e) hBL.symm F2 N2 ?_ ?_ ?_
  · refine ⟨_, [], _, _, [], rfl, rfl, ht0, ?_, fun _ h => (nomatch h), .nil⟩
    exact neN (by omega)
  · clear F2 N2
    intro i v m₁ news₁ h tk I own hvi hJ hnI hoff hown hIm F3 N3
    obtain ⟨r, rits, nr, ps, made, e1, rfl, htr, hr72, hmade, hD⟩ := hJ
    obtain ⟨y, tv, hy, rfl⟩ := StrsAre.at' hs hvi
    obtain ⟨tg, htg, rfl⟩ : ∃ tg, texts[i]? = some tg ∧ y = txt (headText tg) := by
      rw [List.getElem?_map] at hy
      obtain ⟨tg, a, b⟩ := Option.map_eq_some_iff.mp hy
      exact ⟨tg, a, b.symm⟩
    have htm : tg ∈ texts := List.mem_of_getElem? htg
    obtain ⟨it, hIm⟩ := hIm
    have hIr : r ≠ I := hoff _ (.head _)
    have hI72 : I ≠ 72 := fun e => hoff _ (.tail _ (.head _)) e.symm
    have hown' : ∀ q ∈ own, q.1 = I := fun q hq => by
      rcases hown q hq with e | e
      · exact e
      · exfalso
        obtain ⟨o, ho, _⟩ := hl1
        have := (N3 q (List.mem_append_left _ hq)).2.2
        rw [e, ho] at this; cases this
    k_steps
    rename Fr _ _ _ _ => F5
    rename News _ _ _ _ => N5
    rename_i pa h5 l1 tk5
    refine unhold ?_
    have hp : ∀ q ∈ own ++ (r, W.listOf (List.toArray rits) nr) :: (72, tabObj ps) :: made, q.1 < pa := l1
    refine While_inv (J := WSt own I (texts.take i).flatten tg) (n₀ := (headText tg).length) (news := (pa, W.listOf #[] 0) :: (r, W.listOf (List.toArray rits) nr) :: (72, tabObj ps) :: (made ++ own)) F5 ?_ ?_ ?_
    · intro q hq
      refine N5 q ?_
      simp only [List.mem_cons, List.mem_append] at hq ⊢
      rcases hq with h | h | h | h | h
      · exact .inl h
      · exact .inr (.inr (.inl h))
      · exact .inr (.inr (.inr (.inl h)))
      · exact .inr (.inr (.inr (.inr h)))
      · exact .inr (.inl h)
    · refine ⟨r, rits, nr, ps, made, pa, [], 0, headText tg, tv, [], [], rfl, rfl, e1, rfl, htr, hr72, ?_, ?_, ?_, hIr, hI72, ?_, by simpa using hD, .nil, todo_start (hg tg htm).1 (hg tg htm).2, rfl, hlen tg htm, by have := hlen tg htm; simp; omega, ?_⟩
      · exact Nat.ne_of_gt (hp _ (List.mem_append_right _ (.tail _ (.head _))))
      · exact Nat.ne_of_gt (hp _ (List.mem_append_right _ (.head _)))
      · exact Nat.ne_of_gt (hp _ (List.mem_append_left _ hIm))
      · intro q hq
        exact ⟨(hmade q hq).1, (hmade q hq).2, Nat.ne_of_lt (hp _ (List.mem_append_right _ (.tail _ (.tail _ hq)))), hoff _ (.tail _ (.tail _ hq))⟩
      · have h1 := hD.length
        have h2 : (texts.take i).flatten.length ≤ texts.flatten.length := flatten_take_le texts i
        have h3 := hlen tg htm
        rw [List.length_map] at h1
        omega
    · clear F5 N5 hp l1 hmade hD htr hr72 hIr
      intro n m₂ news₂ h₂ tk₂ F6 N6 hW
      obtain ⟨r, rits, nr, ps, made, pa, pits, np, x, t, done, cur, e1, e2, e3, rfl, htr, hr72, hpa72, hpar, hpaI, hrI, hI72', hmade, hD, hDp, hT, rfl, hxl, hz1, hz2⟩ := hW
      rw [canon3 e1 e2 e3] at F6
      rcases hT.shape with ⟨b, k, v, tl, hb, hk0, hkc, hvc, hv0, hx, hnx⟩ | ⟨b, k, v, tl, hb, hk0, hkc, hvc, hv0, hx, htl, hnx⟩ | ⟨b, k, tl, hb, hk0, hkc, hx, htl, hnx⟩ | ⟨c, tl, hc, hx, hnx⟩ | ⟨tl, hx, hc0, hnx⟩ | ⟨hx, hc0, hend⟩
      · have hx0 : x ≠ [] := by rw [hx]; simp [hk0]
        have hsz0 : (txt x).cps.size < 2 ^ 24 := by rw [txt_size]; omega
        have hxx : x.length = b.length + (k.length + (v.length + tl.length + 3)) := by rw [hx]; simp; omega
        have hit : Come (Hit 0 (b.length + k.length) #[some b.length, some (b.length + k.length)] 1) 20 (Sre.forSearch tokenCode (txt x).cps 1 0 (txt x).cps.size false) := by
          rw [txt_cps, hx]; exact token_hit hb hk0 hkc (.inr ⟨61, _, rfl, rfl⟩) (by rw [← hx]; omega)
        have hdr : (⟨((txt x).cps.toList.drop (b.length + k.length)).toArray⟩ : Str) = txt (61 :: 34 :: (v ++ 34 :: tl)) := by rw [hx, drop_of]; rfl
        have hgr : (⟨(txt x).cps.extract b.length (b.length + k.length)⟩ : Str) = txt k := by rw [hx]; exact part_of _ _ _
        k_steps
        refine unhold (search_hit (by k_asm) (by k_asm) (pat_token (by k_in)) hsz0 hit (by omega) (by omega) fun ma mc h3 li F7 N7 l1 l2 => ?_)
        k_sweep
        k_steps
        refine unhold (truthy_match (News.get (by k_asm) (by k_mem)) ?_)
        k_steps
        refine unhold (off (c_unmatched (News.get (by k_asm) (by k_mem)) (News.get (by k_asm) (by k_mem)) (by rw [txt_len]; omega) (by rw [txt_size]; omega) ((R2 _ (Fr.keep (by k_asm))).less (by omega)) fun t4 h4 tk4 k4 => ?_))
        rw [hdr]
        rename Fr _ _ _ _ => F8
        rename News _ _ _ _ => N8
        replace F8 := frKp F8 k4
        replace N8 := newsKp N8 k4
        clear k4
        k_steps
        refine unhold (group_is (News.get (by k_asm) (by k_mem)) (News.get (by k_asm) (by k_mem)) hsz0 hgr ?_)
        have hy0 : (txt (61 :: 34 :: (v ++ 34 :: tl))).cps.size < 2 ^ 24 := by rw [txt_size]; simp; omega
        have hyl : (txt (61 :: 34 :: (v ++ 34 :: tl))).length ≤ 1048576 := by rw [txt_len]; simp; omega
        have hit2 : Come (Hit 0 (v.length + 3) #[some 2, some (v.length + 2)] 1) 40 (Sre.forSearch quotedCode (txt (61 :: 34 :: (v ++ 34 :: tl))).cps 1 0 (txt (61 :: 34 :: (v ++ 34 :: tl))).cps.size false) := by
          rw [txt_cps]; exact quoted_hit hvc (by simp; omega)
        have hdr2 : (⟨((txt (61 :: 34 :: (v ++ 34 :: tl))).cps.toList.drop (v.length + 3)).toArray⟩ : Str) = txt tl := by
          have := drop_of [61, 34] (v ++ [34]) tl
          simp only [List.cons_append, List.nil_append, List.append_assoc, List.length_append, List.length_cons, List.length_nil] at this
          rw [show v.length + 3 = 0 + 1 + 1 + (v.length + (0 + 1)) by omega, this]; rfl
        have hgr2 : (⟨(txt (61 :: 34 :: (v ++ 34 :: tl))).cps.extract 2 (v.length + 2)⟩ : Str) = txt v := by
          have := part_of [61, 34] v (34 :: tl)
          simp only [List.cons_append, List.nil_append, List.length_cons, List.length_nil] at this
          rw [show v.length + 2 = 0 + 1 + 1 + v.length by omega]; exact this
        generalize hyy : txt (61 :: 34 :: (v ++ 34 :: tl)) = y at *
        k_steps
        refine unhold (search_hit (by k_asm) (by k_asm) (pat_quoted (by k_in)) hy0 hit2 (by omega) (by omega) fun mb mc2 h5 li2 F9 N9 l3 l4 => ?_)
        k_sweep
        k_steps
        refine unhold (truthy_match (News.get (by k_asm) (by k_mem)) ?_)
        k_steps
        refine unhold (off (c_unmatched (News.get (by k_asm) (by k_mem)) (News.get (by k_asm) (by k_mem)) hyl (by rw [← hyy, txt_size]; simp) ((R2 _ (Fr.keep (by k_asm))).less (by omega)) fun t6 h6 tk6 k6 => ?_))
        rw [hdr2]
        rename Fr _ _ _ _ => F10
        rename News _ _ _ _ => N10
        replace F10 := frKp F10 k6
        replace N10 := newsKp N10 k6
        clear k6
        k_steps
        refine unhold (group_is (News.get (by k_asm) (by k_mem)) (News.get (by k_asm) (by k_mem)) hy0 hgr2 ?_)
        k_steps
        rename Fr _ _ _ _ => F11
        rename News _ _ _ _ => N11
        refine unhold (lam_make F11 T1 C1 rfl (News.get N11 (by k_mem)) htr fun f ps' h7 tk7 kb hP' htr' hf hfo => ?_)
        obtain ⟨fo, hfo, hfc⟩ := hfo
        have F12 := frBut F11 kb hB72 hL72
        have N12 : News B L h7 ((72, tabObj ps') :: (pa, W.listOf (List.toArray pits) np) :: (r, W.listOf (List.toArray rits) nr) :: (made ++ own)) := newsBut N11 kb hP' hB72 hL72 (by
          refine List.forall_mem_cons.mpr ⟨⟨by k_mem, hpa72⟩, List.forall_mem_cons.mpr ⟨⟨by k_mem, hr72⟩, fun q hq => ⟨?_, ?_⟩⟩⟩
          · repeat (first | exact hq | refine List.Mem.tail _ ?_)
          · rcases List.mem_append.mp hq with h | h
            · exact (hmade q h).2.1
            · rw [hown' q h]; exact hI72')
        clear F11 N11
        k_steps
        have hmiss : Come failed (3 * v.length + 20) (Sre.forSearch escapeCode (txt v).cps 1 0 (txt v).cps.size false) := by rw [txt_cps]; exact escape_miss hvc
        refine unhold (sub_none (pat_escape (by k_in)) (by rw [txt_size]; omega) (by rw [txt_size]; exact List.length_pos_iff.mpr hv0) ⟨fo, hfo, hfc⟩ hmiss (by omega) fun h8 tk8 tok8 k8 => ?_)
        have F13 := frKp F12 k8
        have N13 := newsKp N12 k8
        clear F12 N12 k8
        k_steps
        rename Fr _ _ _ _ => F14
        rename News _ _ _ _ => N14
        rename_i ta h9 lt9
        obtain ⟨la1, la2, la3, la4⟩ := lt9
        have lm := allLt_all la4
        replace N14 := regroup4 N14
        refine unhold (append_top F14 N14 ?_ (fun h10 F15 N15 => ?_) ?_)
        · intro q hq
          simp only [List.mem_cons, List.mem_append, List.cons_append] at hq
          rcases hq with h | h | h | h | h
          · rw [h]; exact hpar.symm
          · rw [h]; exact hpa72.symm
          · rw [h]; exact neN (Nat.ne_of_gt la2)
          · exact (hmade q h).2.2.1
          · rw [hown' q h]; exact hpaI.symm
        · clear F14 N14
          rw [List.push_toArray] at N15
          k_steps
          refine WhileStep.intro F15 N15 (n' := tl.length) (by omega) ⟨r, rits, nr, ps', _, pa, pits ++ [.ref ta], np + 1, tl, t6, done, cur ++ [(k, some v)], rfl, rfl, rfl, rfl, htr', hr72, hpa72, hpar, hpaI, hrI, hI72', ?_, hD.mono (fun q hq => .tail _ hq), ?_, hnx, rfl, by omega, by simp; omega, by omega⟩
          · refine List.forall_mem_cons.mpr ⟨⟨Nat.ne_of_gt la3, Nat.ne_of_gt la1, Nat.ne_of_gt la2, Nat.ne_of_gt (lm _ (List.mem_append_right _ hIm))⟩, hmade⟩
          · rw [List.map_append]
            exact (hDp.mono (fun q hq => .tail _ hq)).append (.one (.tuple (vs := [_, _]) (.head _) (.cons (.str _ _) (.cons (.str _ _) .nil))))
        · show (List.toArray pits).size ≤ sizeLine
          rw [List.size_toArray]; simp only [sizeLine]; omega
      · have hx0 : x ≠ [] := by rw [hx]; simp [hk0]
        have hsz0 : (txt x).cps.size < 2 ^ 24 := by rw [txt_size]; omega
        have hxx : x.length = b.length + (k.length + (v.length + tl.length + 1)) := by rw [hx]; simp
        have hk1 : 0 < k.length := List.length_pos_iff.mpr hk0
        have hit : Come (Hit 0 (b.length + k.length) #[some b.length, some (b.length + k.length)] 1) 20 (Sre.forSearch tokenCode (txt x).cps 1 0 (txt x).cps.size false) := by
          rw [txt_cps, hx]; exact token_hit hb hk0 hkc (.inr ⟨61, _, rfl, rfl⟩) (by rw [← hx]; omega)
        have hdr : (⟨((txt x).cps.toList.drop (b.length + k.length)).toArray⟩ : Str) = txt (61 :: (v ++ tl)) := by rw [hx, drop_of]; rfl
        have hgr : (⟨(txt x).cps.extract b.length (b.length + k.length)⟩ : Str) = txt k := by rw [hx]; exact part_of _ _ _
        k_steps
        refine unhold (search_hit (by k_asm) (by k_asm) (pat_token (by k_in)) hsz0 hit (by omega) (by omega) fun ma mc h3 li F7 N7 l1 l2 => ?_)
        k_sweep
        k_steps
        refine unhold (truthy_match (News.get (by k_asm) (by k_mem)) ?_)
        k_steps
        refine unhold (off (c_unmatched (News.get (by k_asm) (by k_mem)) (News.get (by k_asm) (by k_mem)) (by rw [txt_len]; omega) (by rw [txt_size]; omega) ((R2 _ (Fr.keep (by k_asm))).less (by omega)) fun t4 h4 tk4 k4 => ?_))
        rw [hdr]
        rename Fr _ _ _ _ => F8
        rename News _ _ _ _ => N8
        replace F8 := frKp F8 k4
        replace N8 := newsKp N8 k4
        clear k4
        k_steps
        refine unhold (group_is (News.get (by k_asm) (by k_mem)) (News.get (by k_asm) (by k_mem)) hsz0 hgr ?_)
        have hy0 : (txt (61 :: (v ++ tl))).cps.size < 2 ^ 24 := by rw [txt_size]; simp; omega
        have hyl : (txt (61 :: (v ++ tl))).length ≤ 1048576 := by rw [txt_len]; simp; omega
        have hmis2 : Come failed (3 * (61 :: (v ++ tl)).length + 20) (Sre.forSearch quotedCode (txt (61 :: (v ++ tl))).cps 1 0 (txt (61 :: (v ++ tl))).cps.size false) := by
          rw [txt_cps]
          refine quoted_miss (by simp; omega) (.inr (.inr ?_))
          cases v with
          | nil => exact absurd rfl hv0
          | cons c v => exact ⟨c, v ++ tl, rfl, hvc c (.head _)⟩
        have hmm : 3 * (61 :: (v ++ tl)).length + 20 ≤ 2 ^ 60 := by simp; omega
        have hit3 : Come (Hit 0 (v.length + 1) #[some 1, some (v.length + 1)] 1) 40 (Sre.forSearch valueCode (txt (61 :: (v ++ tl))).cps 1 0 (txt (61 :: (v ++ tl))).cps.size false) := by
          rw [txt_cps]; exact value_hit hv0 hvc htl (by simp; omega)
        have hdr2 : (⟨((txt (61 :: (v ++ tl))).cps.toList.drop (v.length + 1)).toArray⟩ : Str) = txt tl := by
          have := drop_of [61] v tl
          simp only [List.cons_append, List.nil_append, List.length_cons, List.length_nil] at this
          rw [show v.length + 1 = 0 + 1 + v.length by omega, this]; rfl
        have hgr2 : (⟨(txt (61 :: (v ++ tl))).cps.extract 1 (v.length + 1)⟩ : Str) = txt v := by
          have := part_of [61] v tl
          simp only [List.cons_append, List.nil_append, List.length_cons, List.length_nil] at this
          rw [show v.length + 1 = 0 + 1 + v.length by omega]; exact this
        have hsy : v.length + 1 ≤ (txt (61 :: (v ++ tl))).cps.size := by rw [txt_size]; simp
        generalize txt (61 :: (v ++ tl)) = y at *
        k_steps
        refine unhold (search_miss (pat_quoted (by k_in)) hy0 hmis2 hmm ?_)
        k_steps
        refine unhold (search_hit (by k_asm) (by k_asm) (pat_value (by k_in)) hy0 hit3 (by omega) (by omega) fun mb mc2 h5 li2 F9 N9 l3 l4 => ?_)
        k_sweep
        k_steps
        refine unhold (truthy_match (News.get (by k_asm) (by k_mem)) ?_)
        k_steps
        refine unhold (off (c_unmatched (News.get (by k_asm) (by k_mem)) (News.get (by k_asm) (by k_mem)) hyl hsy ((R2 _ (Fr.keep (by k_asm))).less (by omega)) fun t6 h6 tk6 k6 => ?_))
        rw [hdr2]
        rename Fr _ _ _ _ => F10
        rename News _ _ _ _ => N10
        replace F10 := frKp F10 k6
        replace N10 := newsKp N10 k6
        clear k6
        k_steps
        refine unhold (group_is (News.get (by k_asm) (by k_mem)) (News.get (by k_asm) (by k_mem)) hy0 hgr2 ?_)
        k_steps
        refine unhold (SCL.rstrip (fun t7 k7 _ => ?_) (by rw [txt_len]; simp only [sizeLine]; omega))
        rw [rstrip_bare hv0 hvc]
        k_steps
        rename Fr _ _ _ _ => F14
        rename News _ _ _ _ => N14
        rename_i ta h9 lt9
        obtain ⟨la5, la6, la7, la8, la2, la3, la1, la4⟩ := lt9
        have lm := allLt_all la4
        replace N14 := regroup8 N14
        refine unhold (append_top F14 N14 ?_ (fun h10 F15 N15 => ?_) ?_)
        · intro q hq
          simp only [List.mem_cons, List.mem_append, List.cons_append] at hq
          rcases hq with h | h | h | h | h
          · rw [h]; exact hpar.symm
          · rw [h]; exact hpa72.symm
          · rw [h]; exact neN (Nat.ne_of_gt la2)
          · exact (hmade q h).2.2.1
          · rw [hown' q h]; exact hpaI.symm
        · clear F14 N14
          rw [List.push_toArray] at N15
          k_steps
          refine WhileStep.intro F15 N15 (n' := tl.length) (by omega) ⟨r, rits, nr, ps, _, pa, pits ++ [.ref ta], np + 1, tl, t6, done, cur ++ [(k, some v)], rfl, rfl, rfl, rfl, htr, hr72, hpa72, hpar, hpaI, hrI, hI72', ?_, hD.mono (fun q hq => .tail _ hq), ?_, hnx, rfl, by omega, by simp; omega, by omega⟩
          · refine List.forall_mem_cons.mpr ⟨⟨Nat.ne_of_gt la3, Nat.ne_of_gt la1, Nat.ne_of_gt la2, Nat.ne_of_gt (lm _ (List.mem_append_right _ hIm))⟩, hmade⟩
          · rw [List.map_append]
            exact (hDp.mono (fun q hq => .tail _ hq)).append (.one (.tuple (vs := [_, _]) (.head _) (.cons (.str _ _) (.cons (.str _ _) .nil))))
        · show (List.toArray pits).size ≤ sizeLine
          rw [List.size_toArray]; simp only [sizeLine]; omega
      · have hx0 : x ≠ [] := by rw [hx]; simp [hk0]
        have hsz0 : (txt x).cps.size < 2 ^ 24 := by rw [txt_size]; omega
        have hxx : x.length = b.length + (k.length + tl.length) := by rw [hx]; simp
        have hk1 : 0 < k.length := List.length_pos_iff.mpr hk0
        have hit : Come (Hit 0 (b.length + k.length) #[some b.length, some (b.length + k.length)] 1) 20 (Sre.forSearch tokenCode (txt x).cps 1 0 (txt x).cps.size false) := by
          rw [txt_cps, hx]
          exact token_hit hb hk0 hkc (htl.imp id fun ⟨c, r', e, hc⟩ => ⟨c, r', e, ends2 hc⟩) (by rw [← hx]; omega)
        have hdr : (⟨((txt x).cps.toList.drop (b.length + k.length)).toArray⟩ : Str) = txt tl := by rw [hx, drop_of]; rfl
        have hgr : (⟨(txt x).cps.extract b.length (b.length + k.length)⟩ : Str) = txt k := by rw [hx]; exact part_of _ _ _
        k_steps
        refine unhold (search_hit (by k_asm) (by k_asm) (pat_token (by k_in)) hsz0 hit (by omega) (by omega) fun ma mc h3 li F7 N7 l1 l2 => ?_)
        k_sweep
        k_steps
        refine unhold (truthy_match (News.get (by k_asm) (by k_mem)) ?_)
        k_steps
        refine unhold (off (c_unmatched (News.get (by k_asm) (by k_mem)) (News.get (by k_asm) (by k_mem)) (by rw [txt_len]; omega) (by rw [txt_size]; omega) ((R2 _ (Fr.keep (by k_asm))).less (by omega)) fun t4 h4 tk4 k4 => ?_))
        rw [hdr]
        rename Fr _ _ _ _ => F8
        rename News _ _ _ _ => N8
        replace F8 := frKp F8 k4
        replace N8 := newsKp N8 k4
        clear k4
        k_steps
        refine unhold (group_is (News.get (by k_asm) (by k_mem)) (News.get (by k_asm) (by k_mem)) hsz0 hgr ?_)
        have hy0 : (txt tl).cps.size < 2 ^ 24 := by rw [txt_size]; omega
        have hmis2 : Come failed (3 * tl.length + 20) (Sre.forSearch quotedCode (txt tl).cps 1 0 (txt tl).cps.size false) := by
          rw [txt_cps]
          exact quoted_miss (by omega) (htl.imp id .inl)
        have hmis3 : Come failed (3 * tl.length + 20) (Sre.forSearch valueCode (txt tl).cps 1 0 (txt tl).cps.size false) := by
          rw [txt_cps]
          exact value_miss (by omega) htl
        k_steps
        refine unhold (search_miss (pat_quoted (by k_in)) hy0 hmis2 (by omega) ?_)
        k_steps
        refine unhold (search_miss (pat_value (by k_in)) hy0 hmis3 (by omega) ?_)
        k_steps
        rename Fr _ _ _ _ => F14
        rename News _ _ _ _ => N14
        rename_i ta h9 lt9
        obtain ⟨la5, la6, la2, la3, la1, la4⟩ := lt9
        have lm := allLt_all la4
        replace N14 := regroup6 N14
        refine unhold (append_top F14 N14 ?_ (fun h10 F15 N15 => ?_) ?_)
        · intro q hq
          simp only [List.mem_cons, List.mem_append, List.cons_append] at hq
          rcases hq with h | h | h | h | h
          · rw [h]; exact hpar.symm
          · rw [h]; exact hpa72.symm
          · rw [h]; exact neN (Nat.ne_of_gt la2)
          · exact (hmade q h).2.2.1
          · rw [hown' q h]; exact hpaI.symm
        · clear F14 N14
          rw [List.push_toArray] at N15
          k_steps
          refine WhileStep.intro F15 N15 (n' := tl.length) (by omega) ⟨r, rits, nr, ps, _, pa, pits ++ [.ref ta], np + 1, tl, t4, done, cur ++ [(k, none)], rfl, rfl, rfl, rfl, htr, hr72, hpa72, hpar, hpaI, hrI, hI72', ?_, hD.mono (fun q hq => .tail _ hq), ?_, hnx, rfl, by omega, by simp; omega, by omega⟩
          · refine List.forall_mem_cons.mpr ⟨⟨Nat.ne_of_gt la3, Nat.ne_of_gt la1, Nat.ne_of_gt la2, Nat.ne_of_gt (lm _ (List.mem_append_right _ hIm))⟩, hmade⟩
          · rw [List.map_append]
            exact (hDp.mono (fun q hq => .tail _ hq)).append (.one (.tuple (vs := [_, _]) (.head _) (.cons (.str _ _) (.cons .none .nil))))
        · show (List.toArray pits).size ≤ sizeLine
          rw [List.size_toArray]; simp only [sizeLine]; omega
      · have hx0 : x ≠ [] := by rw [hx]; simp
        have hsz0 : (txt x).cps.size < 2 ^ 24 := by rw [txt_size]; omega
        have hxx : x.length = tl.length + 3 := by rw [hx]; simp
        have hmis : Come failed (3 * x.length + 20) (Sre.forSearch tokenCode (txt x).cps 1 0 (txt x).cps.size false) := by
          rw [txt_cps, hx]
          exact token_miss (by decide) (by rw [← hx]; omega)
        have hls : Txt.lstrip (txt x) = txt x := by rw [hx]; exact lstrip_mark (by decide +kernel)
        have hst : Txt.startswith (txt x) (Str.ofString ",") = false := by rw [hx]; exact starts_no (by decide)
        k_steps
        refine unhold (search_miss (pat_token (by k_in)) hsz0 hmis (by omega) ?_)
        k_steps
        refine unhold (SCL.lstrip (fun t7 k7 _ => ?_) (by rw [txt_len]; simp only [sizeLine]; omega))
        rw [hls]
        k_steps
        refine unhold (SC.startswith ?_)
        rw [hst]
        k_steps
        refine unhold (subn_twin (pat_twin (by k_in)) (c := c) (r := tl) (by rw [hx]; rfl) hc (by rw [← hx]; omega) fun h8 tk8 ta t1 t2 k8 ha hg8 => ?_)
        rename Fr _ _ _ _ => F8
        rename News _ _ _ _ => N8
        have hLa : L < ta := Nat.lt_of_lt_of_le F8.ns.lt ha
        have lt8 : ∀ q ∈ (pa, W.listOf (List.toArray pits) np) :: (r, W.listOf (List.toArray rits) nr) :: (72, tabObj ps) :: (made ++ own), q.1 < ta := fun q hq => Nat.lt_of_lt_of_le (Heap.lt_size (N8 q hq).1) ha
        replace F8 := frKp F8 k8
        replace N8 := newsAdd F8 (newsKp N8 k8) hg8 hLa
        clear k8
        k_steps
        rename Fr _ _ _ _ => F9
        rename News _ _ _ _ => N9
        refine WhileStep.intro F9 (newsSub N9 fun q hq => List.mem_cons_of_mem _ hq) (n' := (c :: tl).length) (by simp; omega) ⟨r, rits, nr, ps, made, pa, pits, np, c :: tl, t1, done, cur, rfl, rfl, rfl, rfl, htr, hr72, hpa72, hpar, hpaI, hrI, hI72', hmade, hD, hDp, hnx, rfl, by simp; omega, by simp; omega, by simp; omega⟩
      · have hx0 : x ≠ [] := by rw [hx]; simp
        have hsz0 : (txt x).cps.size < 2 ^ 24 := by rw [txt_size]; omega
        have hxx : x.length = tl.length + 1 := by rw [hx]; simp
        have hmis : Come failed (3 * x.length + 20) (Sre.forSearch tokenCode (txt x).cps 1 0 (txt x).cps.size false) := by
          rw [txt_cps, hx]
          exact token_miss (by decide) (by rw [← hx]; omega)
        have hls : Txt.lstrip (txt x) = txt x := by rw [hx]; exact lstrip_mark (by decide +kernel)
        have hst : Txt.startswith (txt x) (Str.ofString ",") = true := by rw [hx]; exact starts_comma
        have hxl' : (txt x).length ≤ 1048576 := by rw [txt_len]; omega
        have hcf : Txt.slice (txt x) (some (1 : Int)) none = txt tl := by rw [hx]; exact cut_first
        have hpl := hDp.length
        have hpl0 : 0 < pits.length := by rw [hpl, List.length_map]; exact List.length_pos_iff.mpr hc0
        k_steps
        refine unhold (search_miss (pat_token (by k_in)) hsz0 hmis (by omega) ?_)
        k_steps
        refine unhold (SCL.lstrip (fun t7 k7 _ => ?_) (by rw [txt_len]; simp only [sizeLine]; omega))
        rw [hls]
        k_steps
        refine unhold (SC.startswith ?_)
        rw [hst]
        k_steps
        refine unhold (SCL.lstrip (fun t8 k8 _ => ?_) (by rw [txt_len]; simp only [sizeLine]; omega))
        rw [hls]
        k_steps
        refine unhold (wpAny_truthy_list (items := List.toArray pits) ⟨_, News.get (by k_asm) (by k_mem), rfl, _, rfl⟩ (by rw [List.size_toArray]; omega) ?_)
        rw [if_pos (by rw [truthy_toArray hpl0])]
        k_steps
        rename Fr _ _ _ _ => F8
        rename News _ _ _ _ => N8
        replace N8 := regroup2 N8
        refine unhold (append_top F8 N8 ?_ (fun h10 F15 N15 => ?_) ?_)
        · intro q hq
          simp only [List.mem_cons, List.mem_append, List.cons_append] at hq
          rcases hq with h | h | h | h
          · rw [h]; exact hr72.symm
          · rw [h]; exact hpar
          · exact (hmade q h).1
          · rw [hown' q h]; exact hrI.symm
        · clear F8 N8
          rw [List.push_toArray] at N15
          k_steps
          rename Fr _ _ _ _ => F16
          rename News _ _ _ _ => N16
          rename_i pa2 h5 l5 tk5
          have l6 := allLt_all l5.2.2
          rw [hcf] at F16
          refine WhileStep.intro F16 N16 (n' := tl.length) (by omega) ⟨r, rits ++ [.ref pa], nr + 1, ps, (pa, W.listOf (List.toArray pits) np) :: made, pa2, [], 0, tl, _, done ++ [cur], [], rfl, rfl, rfl, rfl, htr, hr72, ?_, ?_, ?_, hrI, hI72', ?_, ?_, .nil, hnx, rfl, by omega, by simp; omega, by simp; omega⟩
          · exact Nat.ne_of_gt l5.2.1
          · exact Nat.ne_of_gt l5.1
          · exact Nat.ne_of_gt (l6 (I, it) (by simp [hIm]))
          · intro q hq
            rcases List.mem_cons.mp hq with rfl | hq
            · exact ⟨hpar, hpa72, Nat.ne_of_lt (l6 _ (.head _)), hpaI⟩
            · exact ⟨(hmade q hq).1, (hmade q hq).2.1, Nat.ne_of_lt (l6 q (.tail _ (List.mem_append_left _ hq))), (hmade q hq).2.2.2⟩
          · rw [← List.append_assoc]; exact datAdd hD hDp
        · show (List.toArray rits).size ≤ sizeLine
          rw [List.size_toArray]; simp only [sizeLine]; omega
      · have hx9 : x = [] := hx
        have hpl := hDp.length
        have hpl0 : 0 < pits.length := by rw [hpl, List.length_map]; exact List.length_pos_iff.mpr hc0
        k_steps
        refine unhold (wpAny_truthy_list (items := List.toArray pits) ⟨_, News.get (by k_asm) (by k_mem), rfl, _, rfl⟩ (by rw [List.size_toArray]; omega) ?_)
        rw [if_pos (by rw [truthy_toArray hpl0])]
        k_steps
        rename Fr _ _ _ _ => F8
        rename News _ _ _ _ => N8
        replace N8 := regroup2 N8
        refine unhold (append_top F8 N8 ?_ (fun h10 F15 N15 => ?_) ?_)
        · intro q hq
          simp only [List.mem_cons, List.mem_append, List.cons_append] at hq
          rcases hq with h | h | h | h
          · rw [h]; exact hr72.symm
          · rw [h]; exact hpar
          · exact (hmade q h).1
          · rw [hown' q h]; exact hrI.symm
        · clear F8 N8
          rw [List.push_toArray] at N15
          k_steps
          rename Fr _ _ _ _ => F16
          rename News _ _ _ _ => N16
          refine ⟨_, _, _, (r, W.listOf (List.toArray (rits ++ [.ref pa])) (nr + 1)) :: (72, tabObj ps) :: ((pa, W.listOf (List.toArray pits) np) :: made), rfl, F16, newsSub N16 ?_, ?_, r, rits ++ [.ref pa], nr + 1, ps, (pa, W.listOf (List.toArray pits) np) :: made, rfl, rfl, htr, hr72, ?_, ?_⟩
          · intro q hq
            simp only [List.mem_cons, List.mem_append, List.cons_append] at hq ⊢
            rcases hq with h | h | h | h | h
            · exact .inr (.inr (.inr (.inr h)))
            · exact .inl h
            · exact .inr (.inl h)
            · exact .inr (.inr (.inl h))
            · exact .inr (.inr (.inr (.inl h)))
          · intro q hq hqI
            have hqI := List.mem_singleton.mp hqI
            simp only [List.mem_cons] at hq
            rcases hq with h | h | h | h
            · rw [h] at hqI; exact hrI hqI
            · rw [h] at hqI; exact hI72 hqI.symm
            · rw [h] at hqI; exact hpaI hqI
            · exact (hmade q h).2.2.2 hqI
          · intro q hq
            rcases List.mem_cons.mp hq with rfl | hq
            · exact ⟨hpar, hpa72⟩
            · exact ⟨(hmade q hq).1, (hmade q hq).2.1⟩
          · rw [take_flat htg, hend, ← List.append_assoc]; exact datAdd hD hDp
        · show (List.toArray rits).size ≤ sizeLine
          rw [List.size_toArray]; simp only [sizeLine]; omega
  · intro h' tk m' news' F' N' hJ
    obtain ⟨r, rits, nr, ps, made, e1, rfl, htr, hr72, hmade, hD⟩ := hJ
    rw [canon1 e1] at F'
    clear F2 N2
    k_steps
    rename Fr _ _ _ _ => F7
    rename News _ _ _ _ => N7
    have hlen' : vs.length = texts.length := by have := hs.length; simpa using this
    have k2 : ∀ b o, b ≠ 72 → s.heap.get? b = some o → h'.get? b = some o := fun b o hb e => F7.keep _ _ (kB b o hb e)
    refine ret _ _ _ ((r, W.listOf (List.toArray rits) nr) :: made) ⟨fun b o e => F7.keep _ _ (kG b o e), ⟨ps, (N7 _ (.tail _ (.head _))).1, htr⟩, ?_⟩ (fun b o hb _ e => k2 b o hb e) ?_ ?_
    · obtain ⟨ps2, a2, b2⟩ := S.t2
      exact ⟨ps2, k2 _ _ (by decide) a2, b2⟩
    · intro q hq
      have hq' : q ∈ (r, W.listOf (List.toArray rits) nr) :: (72, tabObj ps) :: made := by
        rcases List.mem_cons.mp hq with rfl | hq
        · exact .head _
        · exact .tail _ (.tail _ hq)
      refine ⟨(N7 q hq').1, ?_⟩
      have hq72 : q.1 ≠ 72 := by
        rcases List.mem_cons.mp hq with rfl | hq
        · exact hr72
        · exact (hmade q hq).2
      cases hg9 : s.heap.get? q.1 with
      | none => rfl
      | some o9 => have := (N7 q hq').2.2; rw [kB _ _ hq72 hg9] at this; cases this
    · refine .list (.head _) ?_
      rw [hlen', List.take_length] at hD
      exact hD.mono fun q hq => .tail _ hq
end
end Mine
end
section
open PySem PySem.W PyProof.Rows PySem.Calls
set_option maxRecDepth 100000
set_option maxHeartbeats 0
set_option rowWalk.seconds 0
set_option linter.unusedSimpArgs false
set_option linter.unusedVariables false
namespace Mine
local macro_rules | `(tactic| walk_at "exec For Name Name cons nil") => `(tactic| (refine For_G ?_))
local macro_rules | `(tactic| walk_at "exec For Tuple Name cons nil") => `(tactic| (refine For_G ?_))
local macro_rules | `(tactic| walk_at "truthy ref") => `(tactic| (refine hold ?_))
local macro_rules | `(tactic| walk_at "getMethod ref") => `(tactic| (k_here; (with_reducible show wpAny _ _ (getMethod (Value.ref _) (PySem.Str.ofString "fullmatch") _) _ _ _); (refine patMethod (pat_joinToken (by k_in)) slot_re_Pattern_fullmatch type_re_Pattern_fullmatch ?_)))
local macro_rules | `(tactic| walk_at "getMethod ref") => `(tactic| (k_here; (with_reducible show wpAny _ _ (getMethod (Value.ref _) (PySem.Str.ofString "sub") _) _ _ _); (refine patMethod (pat_joinEscape (by k_in)) slot_re_Pattern_sub type_re_Pattern_sub ?_)))
local macro_rules | `(tactic| walk_at "call builtin:re.Pattern.fullmatch") => `(tactic| (refine hold ?_))
local macro_rules | `(tactic| walk_at "call builtin:re.Pattern.sub") => `(tactic| (refine hold ?_))
local macro_rules | `(tactic| walk_at "call builtin:list.append") => `(tactic| (refine hold ?_))
local macro_rules | `(tactic| walk_at "call builtin:str.join") => `(tactic| (refine hold ?_))
local macro_rules | `(tactic| walk_at "eval Lambda") => `(tactic| (refine hold ?_))
/-- what holds between the turns of the outer loop -/
inductive OJ (rows : List (List Pr)) (i : Nat) (m : Str → Option Value) (news : List (Addr × Obj)) : Prop
  | intro : ∀ r rits nr ps, (m (Str.ofString "headers") = some (.ref r)) → (news = [(r, W.listOf (List.toArray rits) nr), (89, tabObj ps)]) → (TriplesOk ps.toList) → (r ≠ 89) → (StrsAre rits ((rows.take i).map fun r => txt (rowText r))) → OJ rows i m news
/-- what holds between the turns of the inner loop -/
inductive IJ (own : List (Addr × Obj)) (I r : Addr) (rits : List Value) (nr : Nat) (row : List Pr) (i : Nat) (m : Str → Option Value) (news : List (Addr × Obj)) : Prop
  | intro : ∀ pa pits np ps, (m (Str.ofString "attr") = some (.ref pa)) → (m (Str.ofString "headers") = some (.ref r)) → (news = (pa, W.listOf (List.toArray pits) np) :: (r, W.listOf (List.toArray rits) nr) :: (89, tabObj ps) :: own) → (TriplesOk ps.toList) → (pa ≠ 89) → (pa ≠ r) → (pa ≠ I) → (StrsAre pits ((row.take i).map fun p => txt (pairText p))) → IJ own I r rits nr row i m news
section
variable {w : World} {A : Around} {E : Value → Shared → Prop} {s : Shared} {p : Program} {loose : List Str} {mean : ExcName → Option Value} {mg mb : Str → Option Value} {Q : Value → Shared → Prop} {G : Heap}
theorem c_join (g : Ghost (Mine.hd.heap_1 w.params) p loose mean mg mb G) (S : Sits G s.heap) (R : Ready (Mine.hd.heap_1 w.params) p loose mean mg mb A 6 s.heap) {lv : Value} {rows : List (List Pr)} {made : List (Addr × Obj)}
    (hm : ∀ q ∈ made, s.heap.get? q.1 = some q.2) (hD : DatIn made lv (Dat.list (rows.map rowDat))) (hg : ∀ r ∈ rows, GoodR r) (hs : ∀ r ∈ rows, r.length ≤ 16 ∧ ∀ p ∈ r, SmallP p) (hn : rows.length < 1000)
    (ret : ∀ t h' tk, Sits G h' → Kp2 s.heap h' → Q (.str (txt (headText rows)) t) { s with heap := h', toks := tk }) :
    On PySem.Challenge.rw_qh0025_01 Mine.hd.heap_1 (wpAny (model prog w) A (call (.ref 94) [lv]) Q E s) := by
  k_fill
  unfold On
  obtain ⟨hv, vs, n0, rfl, hvm, hDs⟩ := datList hD
  have hl0 := hm _ hvm
  have hl : s.heap.IsList hv vs.toArray := ⟨_, hl0, rfl, _, rfl⟩
  k_dflt (refine' enter (n := 5) R ?k6 ?k7 ?k9 ?kB ?_ ?c2 ?c3 ?c4 ?c5; (case k6 => k_is); (case k7 => k_is); (case k9 => exact BindsTo.of_eq rfl); (case c5 => decide); (case kB => exact locs rfl); (case c2 => exact rfl); (case c3 => exact rfl); (case c4 => exact rfl))
  intro dp fr gd un L h1 hdp hun R1 F0 N0 X0 T0
  obtain ⟨ps0, hP0, ht0⟩ := S.t2
  have kG : Kp G (hideAll s.heap [89]) := hide_kp S.k (by intro b hb; rw [List.mem_singleton.mp hb]; exact g.n2)
  have F1 := hide_fr (ts := [89]) F0
  have X1 := g.X.keeps kG
  have T1 := g.T.keeps kG
  have C1 := g.C2.keeps kG
  have kB : ∀ b o, b ≠ 89 → s.heap.get? b = some o → (hideAll s.heap [89]).get? b = some o := fun b o hb e => hideAll_get _ e (fun hm => hb (List.mem_singleton.mp hm))
  have kS : ∀ b o, s.heap.get? b = some o → (o.cls = .type "list" ∨ o.cls = .type "tuple") → (hideAll s.heap [89]).get? b = some o := fun b o e hc => kB b o (fun q => by
    rw [q, hP0] at e; cases e; rcases hc with hc | hc <;> cases hc) e
  have hl1 : (hideAll s.heap [89]).IsList hv vs.toArray := ⟨_, kS _ _ hl0 (.inl rfl), rfl, _, rfl⟩
  have N1 : News (hideAll s.heap [89]) L h1 [(89, tabObj ps0)] := by
    intro q hq
    rw [List.mem_singleton.mp hq]
    exact ⟨F0.keep _ _ hP0, Nat.ne_of_lt (Nat.lt_of_lt_of_le (Heap.lt_size hP0) F0.above), hideAll_none _ (List.mem_singleton.mpr rfl)⟩
  have hBL : ∀ b o, s.heap.get? b = some o → L ≠ b := fun b o ho e => by
    exact absurd (Heap.lt_size ho) (by rw [← e]; exact Nat.not_lt.mpr F0.above)
  have hL89 : L ≠ 89 := Nat.ne_of_gt (Nat.lt_of_lt_of_le (Heap.lt_size hP0) F0.above)
  have hB89 : (hideAll s.heap [89]).get? 89 = none := hideAll_none _ (List.mem_singleton.mpr rfl)
  clear F0 N0 X0 T0
  generalize hideAll s.heap [89] = B at *
  (try dsimp only)
  k_steps
  refine unhold ?_
  rename Fr _ _ _ _ => F2
  rename News _ _ _ _ => N2
  refine iterG (J := OJ rows) rfl (hl1.at fun o e => F2.keep _ _ e) (hBL _ _ hl0).symm F2 N2 ?_ ?_ ?_
  · refine ⟨_, [], _, _, rfl, rfl, ht0, ?_, .nil⟩
    exact neN (by omega)
  · clear F2 N2
    intro i v m₁ news₁ h tk I own hvi hJ hnI hoff hown hIm F3 N3
    obtain ⟨r, rits, nr, ps, e1, rfl, htr, hr89, hD3⟩ := hJ
    obtain ⟨row, hrow, hDr⟩ := DatAll.at' hDs hvi
    obtain ⟨rl, pv, n1, rfl, hrm, hDp⟩ := datList hDr
    have hl2 := kS _ _ (hm _ hrm) (.inl rfl)
    have hrowm : row ∈ rows := List.mem_of_getElem? hrow
    obtain ⟨it, hIm⟩ := hIm
    have hIr : r ≠ I := hoff _ (.head _)
    have hI89 : I ≠ 89 := fun e => hoff _ (.tail _ (.head _)) e.symm
    have hown' : ∀ q ∈ own, q.1 = I := fun q hq => by
      rcases hown q hq with e | e
      · exact e
      · exfalso
        obtain ⟨o, ho, _⟩ := hl1
        have := (N3 q (List.mem_append_left _ hq)).2.2
        rw [e, ho] at this; cases this
    rw [canon1 e1] at F3
    k_steps
    rename Fr _ _ _ _ => F5
    rename News _ _ _ _ => N5
    rename_i pa h5 l1 tk5
    refine unhold ?_
    have hp : ∀ q ∈ own ++ [(r, W.listOf (List.toArray rits) nr), (89, tabObj ps)], q.1 < pa := l1
    have hLrl : rl ≠ L := (hBL _ _ (hm _ hrm)).symm
    have hgl : (tk5).IsList rl pv.toArray := ⟨_, F5.keep _ _ hl2, rfl, _, rfl⟩
    refine iterH (J := IJ own I r rits nr row) (news := (pa, W.listOf #[] 0) :: (r, W.listOf (List.toArray rits) nr) :: (89, tabObj ps) :: own) rfl hgl hLrl F5 ?_ ?_ ?_ ?_ ⟨_, _, _, rfl⟩
    · intro q hq
      refine N5 q ?_
      simp only [List.mem_cons, List.mem_append] at hq ⊢
      rcases hq with h | h | h | h
      · exact .inl h
      · exact .inr (.inr (.inl h))
      · exact .inr (.inr (.inr (.inl h)))
      · exact .inr (.inl h)
    · refine ⟨pa, [], 0, ps, rfl, rfl, rfl, htr, ?_, ?_, ?_, .nil⟩
      · exact Nat.ne_of_gt (hp _ (List.mem_append_right _ (.tail _ (.head _))))
      · exact Nat.ne_of_gt (hp _ (List.mem_append_right _ (.head _)))
      · exact Nat.ne_of_gt (hp _ (List.mem_append_left _ hIm))
    · clear F5 N5 hp l1 htr hgl F3 N3
      intro j v m₂ news₂ h₂ tk₂ I2 own2 hvj hJ2 hnI2 hoff2 hown2 hIm2 F6 N6
      obtain ⟨pa, pits, np, ps, e1, e2, rfl, htr, hpa89, hpar, hpaI, hDa⟩ := hJ2
      obtain ⟨⟨k, o⟩, hpj, hDj⟩ := DatAll.at' hDp hvj
      obtain ⟨ta, tk, x, n2, rfl, htm, hx1, hx2⟩ := datPair hDj
      have hown2' : ∀ q ∈ own2, q.1 = I2 := fun q hq => by
        rcases hown2 q hq with e | e
        · exact e
        · exfalso
          have := (N6 q (List.mem_append_left _ hq)).2.2
          rw [e, hl2] at this; cases this
      have hprow : (k, o) ∈ row := List.mem_of_getElem? hpj
      have hjl : j < row.length := (List.getElem?_eq_some_iff.mp hpj).1
      have hgp := (hg row hrowm).2 _ hprow
      have hsp := (hs row hrowm).2 _ hprow
      have hrl := (hs row hrowm).1
      have hk16 : (txt k).length ≤ 16 := by rw [txt_len]; exact hsp.1
      have hI2pa : pa ≠ I2 := hoff2 _ (.head _)
      have hI2r : r ≠ I2 := hoff2 _ (.tail _ (.head _))
      have hI289 : I2 ≠ 89 := fun e => hoff2 _ (.tail _ (.tail _ (.head _))) e.symm
      have hI2o : ∀ q ∈ own, q.1 ≠ I2 := fun q hq => hoff2 _ (.tail _ (.tail _ (.tail _ hq)))
      have htB := kS _ _ (hm _ htm) (.inr rfl)
      have hT : IsTup B ta #[.str (txt k) tk, x] := ⟨_, htB, rfl, _, rfl⟩
      have hlp : pits.length ≤ 16 := by have := hDa.length; simp at this; omega
      rw [canon2 e1 e2] at F6
      replace N6 : News B L h₂ ((pa, W.listOf (List.toArray pits) np) :: (r, W.listOf (List.toArray rits) nr) :: (89, tabObj ps) :: (own ++ own2)) := newsSub N6 (by
        intro q hq
        simp only [List.mem_cons, List.mem_append] at hq ⊢
        rcases hq with h | h | h | h | h
        · exact .inr (.inl h)
        · exact .inr (.inr (.inl h))
        · exact .inr (.inr (.inr (.inl h)))
        · exact .inr (.inr (.inr (.inr h)))
        · exact .inl h)
      have fin : ∀ {h' : Heap} {tk' : Nat} {m' : Str → Option Value} {ps' : Array Value} {t' : Tok} {sA sB : Shared}, sB = { sA with heap := h', toks := tk' } → Fr B L h' m' → News B L h' ((pa, W.listOf (List.toArray (pits ++ [.str (txt (pairText (k, o))) t'])) (np + 1)) :: (r, W.listOf (List.toArray rits) nr) :: (89, tabObj ps') :: (own ++ own2)) → TriplesOk ps'.toList → m' (Str.ofString "attr") = some (.ref pa) → m' (Str.ofString "headers") = some (.ref r) → GEnd B L [I2] own2 (IJ own I r rits nr row (j + 1)) sA sB := by
        intro h' tk' m' ps' t' sA sB hAB F N ht1 em1 em2
        refine ⟨h', tk', m', _, hAB, F, newsSub N ?_, ?_, pa, pits ++ [.str (txt (pairText (k, o))) t'], np + 1, ps', em1, em2, rfl, ht1, hpa89, hpar, hpaI, ?_⟩
        · intro q hq
          simp only [List.mem_cons, List.mem_append] at hq ⊢
          rcases hq with h | h | h | h | h
          · exact .inr (.inr (.inr (.inr h)))
          · exact .inl h
          · exact .inr (.inl h)
          · exact .inr (.inr (.inl h))
          · exact .inr (.inr (.inr (.inl h)))
        · intro q hq hqI
          have hqI := List.mem_singleton.mp hqI
          simp only [List.mem_cons] at hq
          rcases hq with h | h | h | h
          · rw [h] at hqI; exact hI2pa hqI
          · rw [h] at hqI; exact hI2r hqI
          · rw [h] at hqI; exact hI289 hqI.symm
          · exact hI2o q h hqI
        · rw [List.take_add_one, hpj, List.map_append]
          exact strsAre_push hDa _ _
      have neq' : ∀ ps', ∀ q ∈ (r, W.listOf (List.toArray rits) nr) :: (89, tabObj ps') :: (own ++ own2), q.1 ≠ pa := by
        intro ps' q hq
        simp only [List.mem_cons, List.mem_append] at hq
        rcases hq with h | h | h | h
        · rw [h]; exact hpar.symm
        · rw [h]; exact hpa89.symm
        · rw [hown' q h]; exact hpaI.symm
        · rw [hown2' q h]; exact hI2pa.symm
      have neq := neq' ps
      have hsz9 : (List.toArray pits).size ≤ sizeLine := by rw [List.size_toArray]; simp only [sizeLine]; omega
      cases o with
      | none =>
        cases hx1 rfl
        k_steps
        rename Fr _ _ _ _ => F8
        rename News _ _ _ _ => N8
        refine unhold (append_top F8 N8 neq (fun h10 F15 N15 => ?_) hsz9)
        clear F8 N8
        rw [List.push_toArray] at N15
        k_steps
        exact fin rfl F15 N15 htr rfl rfl
      | some v =>
        obtain ⟨u, rfl⟩ := hx2 v rfl
        have hv16 : (txt v).length ≤ 16 := by rw [txt_len]; exact hsp.2 v rfl
        have hv16' : v.length ≤ 16 := hsp.2 v rfl
        obtain ⟨hv0, hvc⟩ := hgp.v v rfl
        have hsz0 : (txt v).cps.size < 2 ^ 24 := by rw [txt_size]; omega
        by_cases hb : bareV v = true
        · have hvb : ∀ c ∈ v, bareC c = true := fun c hc => by simpa [bareV] using List.all_eq_true.mp hb c hc
          have hit := full_hit hv0 hvb (by omega)
          have hfm : Str.empty ++ txt k ++ Str.ofString "=" ++ txt v = txt (pairText (k, some v)) := by
            rw [empty_txt, eq_txt, txt_cat, txt_cat, txt_cat]
            simp [pairText, hb]
          k_steps
          refine unhold (full_hitK (by k_asm) (by k_asm) (pat_joinToken (by k_in)) hsz0 (by rw [txt_cps]; exact hit) (by omega) fun ma mc h3 li F7 N7 l1 l2 => ?_)
          k_sweep
          k_steps
          refine unhold (truthy_match (News.get (by k_asm) (by k_mem)) ?_)
          k_steps
          rename Fr _ _ _ _ => F8
          rename News _ _ _ _ => N8
          rw [hfm] at F8 ⊢
          replace N8 : News B L _ ((pa, W.listOf (List.toArray pits) np) :: (r, W.listOf (List.toArray rits) nr) :: (89, tabObj ps) :: (own ++ own2)) := newsSub N8 (by intro q hq; first | exact hq | exact .tail _ hq | exact .tail _ (.tail _ hq) | exact .tail _ (.tail _ (.tail _ hq)))
          refine unhold (append_top F8 N8 neq (fun h10 F15 N15 => ?_) hsz9)
          clear F8 N8
          rw [List.push_toArray] at N15
          k_steps
          exact fin rfl F15 N15 htr rfl rfl
        · obtain ⟨a, c, r', hvr, hab, hcb⟩ : ∃ a c r', v = a ++ c :: r' ∧ (∀ c ∈ a, bareC c = true) ∧ bareC c = false := firstBad v hb
          have hmis := full_miss (a := a) (c := c) (r := r') hab (hvc c (by rw [hvr]; simp)) hcb (by rw [← hvr]; omega)
          rw [← hvr] at hmis
          k_steps
          refine unhold (full_missK (pat_joinToken (by k_in)) hsz0 (by rw [txt_cps]; exact hmis) (by omega) ?_)
          k_steps
          rename Fr _ _ _ _ => F11
          rename News _ _ _ _ => N11
          refine unhold (lam_make F11 T1 C1 rfl (News.get N11 (by k_mem)) htr fun f ps' h7 tk7 kb hP' htr' hf hfo => ?_)
          obtain ⟨fo, hfo, hfc⟩ := hfo
          have F12 := frBut F11 kb hB89 hL89
          have N12 : News B L h7 ((89, tabObj ps') :: (pa, W.listOf (List.toArray pits) np) :: (r, W.listOf (List.toArray rits) nr) :: (own ++ own2)) := newsBut N11 kb hP' hB89 hL89 (by
            refine List.forall_mem_cons.mpr ⟨⟨by k_mem, hpa89⟩, List.forall_mem_cons.mpr ⟨⟨by k_mem, hr89⟩, fun q hq => ⟨?_, ?_⟩⟩⟩
            · repeat (first | exact hq | refine List.Mem.tail _ ?_)
            · rcases List.mem_append.mp hq with h | h
              · rw [hown' q h]; exact hI89
              · rw [hown2' q h]; exact hI289)
          clear F11 N11
          k_steps
          have hmiss : Come failed 20 (Sre.forSearch joinEscapeCode (txt v).cps 1 0 (txt v).cps.size false) := by rw [txt_cps]; exact joinEscape_miss hvc
          refine unhold (sub_none (pat_joinEscape (by k_in)) (by rw [txt_size]; omega) (by rw [txt_size]; exact List.length_pos_iff.mpr hv0) ⟨fo, hfo, hfc⟩ hmiss (by omega) fun h8 tk8 tok8 k8 => ?_)
          have F13 := frKp F12 k8
          have N13 := newsKp N12 k8
          clear F12 N12 k8
          k_steps
          have hfm : Str.empty ++ txt k ++ Str.ofString "=" ++ (Str.ofString "\"" ++ txt v ++ Str.ofString "\"") = txt (pairText (k, some v)) := by
            rw [empty_txt, eq_txt, quo_txt]
            simp only [txt_cat]
            simp [pairText, hb]
          rename Fr _ _ _ _ => F8
          rename News _ _ _ _ => N8
          rw [hfm] at F8 ⊢
          replace N8 : News B L _ ((pa, W.listOf (List.toArray pits) np) :: (r, W.listOf (List.toArray rits) nr) :: (89, tabObj ps') :: (own ++ own2)) := regroup3 (newsSub N8 (by intro q hq; first | exact hq | exact .tail _ hq | exact .tail _ (.tail _ hq) | exact .tail _ (.tail _ (.tail _ hq))))
          refine unhold (append_top F8 N8 (neq' ps') (fun h10 F15 N15 => ?_) hsz9)
          clear F8 N8
          rw [List.push_toArray] at N15
          k_steps
          exact fin rfl F15 N15 htr' rfl rfl
    · intro h' tk' m' news' F' N' hJ
      obtain ⟨pa, pits, np, ps, e1, e2, rfl, htr, hpa89, hpar, hpaI, hDa⟩ := hJ
      rw [canon2 e1 e2] at F'
      clear F5 N5
      have hpv : pv.length = row.length := by have := hDp.length; simpa using this
      rw [hpv, List.take_length] at hDa
      have hlp : pits.length = row.length := by have := hDa.length; simpa using this
      have hr0 := (hg row hrowm).1
      have hlp0 : 0 < pits.length := by rw [hlp]; exact List.length_pos_iff.mpr hr0
      have hrl := (hs row hrowm).1
      k_steps
      refine unhold (wpAny_truthy_list (items := List.toArray pits) ⟨_, News.get (by k_asm) (by k_mem), rfl, _, rfl⟩ (by rw [List.size_toArray]; omega) ?_)
      rw [if_pos (by rw [truthy_toArray hlp0])]
      k_steps
      rename News _ _ _ _ => N7
      have hgl : (List.map (fun y : Str => y.length) (row.map fun p => txt (pairText p))).sum ≤ row.length * 40 := by
        have := StrLaws.sumLen_le (B := 40) (row.map fun p => txt (pairText p)) (by
          intro y hy
          obtain ⟨p, hp, rfl⟩ := List.mem_map.mp hy
          rw [txt_len]
          exact small_pair ((hs row hrowm).2 p hp))
        simpa using this
      refine unhold (join_listC (items := List.toArray pits) ⟨_, News.get N7 (by k_mem), rfl, _, rfl⟩ hDa (by decide) (by rw [List.length_map]; omega) fun t9 k9 => ?_)
      rw [joinRow]
      k_steps
      rename Fr _ _ _ _ => F8
      rename News _ _ _ _ => N8
      have hrit : rits.length ≤ 1000 := by have := hD3.length; simp at this; omega
      replace N8 : News B L _ ((r, W.listOf (List.toArray rits) nr) :: (89, tabObj ps) :: own) := newsSub N8 (by intro q hq; first | exact hq | exact .tail _ hq | exact .tail _ (.tail _ hq) | exact .tail _ (.tail _ (.tail _ hq)))
      refine unhold (append_top F8 N8 ?_ (fun h10 F15 N15 => ?_) ?_)
      · intro q hq
        rcases List.mem_cons.mp hq with h | h
        · rw [h]; exact hr89.symm
        · rw [hown' q h]; exact hIr.symm
      · clear F8 N8
        rw [List.push_toArray] at N15
        k_steps
        refine ⟨_, _, _, [(r, W.listOf (List.toArray (rits ++ [.str (txt (rowText row)) t9])) (nr + 1)), (89, tabObj ps)], rfl, F15, newsSub N15 ?_, ?_, r, _, nr + 1, ps, rfl, rfl, htr, hr89, ?_⟩
        · intro q hq
          simp only [List.mem_cons, List.mem_append, List.not_mem_nil, or_false] at hq ⊢
          rcases hq with h | h | h
          · exact .inr (.inr h)
          · exact .inl h
          · exact .inr (.inl h)
        · intro q hq hqI
          have hqI := List.mem_singleton.mp hqI
          simp only [List.mem_cons, List.not_mem_nil, or_false] at hq
          rcases hq with h | h
          · rw [h] at hqI; exact hIr hqI
          · rw [h] at hqI; exact hI89 hqI.symm
        · rw [List.take_add_one, hrow, List.map_append]
          exact strsAre_push hD3 _ _
      · rw [List.size_toArray]; simp only [sizeLine]; omega
  · intro h' tk m' news' F' N' hJ
    obtain ⟨r, rits, nr, ps, e1, rfl, htr, hr89, hD3⟩ := hJ
    rw [canon1 e1] at F'
    clear F2 N2
    have hlen' : vs.length = rows.length := by have := hDs.length; simpa using this
    rw [hlen', List.take_length] at hD3
    have hgl : (List.map (fun y : Str => y.length) (rows.map fun p => txt (rowText p))).sum ≤ rows.length * 700 := by
      have := StrLaws.sumLen_le (B := 700) (rows.map fun p => txt (rowText p)) (by
        intro y hy
        obtain ⟨p, hp, rfl⟩ := List.mem_map.mp hy
        rw [txt_len]
        exact small_row (hs p hp).2 (hs p hp).1)
      simpa using this
    k_steps
    rename News _ _ _ _ => N7
    refine unhold (join_listC (items := List.toArray rits) ⟨_, News.get N7 (by k_mem), rfl, _, rfl⟩ hD3 (by decide) (by rw [List.length_map]; omega) fun t9 k9 => ?_)
    rw [joinRows]
    k_steps
    rename Fr _ _ _ _ => F7
    have k2 : ∀ b o, b ≠ 89 → s.heap.get? b = some o → h'.get? b = some o := fun b o hb e => F7.keep _ _ (kB b o hb e)
    refine ret _ _ _ ⟨fun b o e => F7.keep _ _ (kG b o e), ?_, ⟨ps, (N7 _ (.tail _ (.head _))).1, htr⟩⟩ (fun b o _ hb e => k2 b o hb e)
    obtain ⟨ps2, a2, b2⟩ := S.t1
    exact ⟨ps2, k2 _ _ (by decide) a2, b2⟩
end
end Mine
end
section
open PySem PySem.W PyProof.Rows PySem.Calls
set_option maxRecDepth 100000
set_option linter.unusedVariables false
namespace Mine
theorem ba_halves (x y : Int) : Builtin.bitAnd x y = 2 * Builtin.bitAnd (x / 2) (y / 2) + (if x % 2 = 1 ∧ y % 2 = 1 then 1 else 0) := kbt_halves x y
theorem ba_even (x y : Int) : Builtin.bitAnd x (2 * y) = 2 * Builtin.bitAnd (x / 2) y := by
  rw [ba_halves, show 2 * y / 2 = y by omega, if_neg (by omega)]; omega
theorem ba_odd (x y : Int) : Builtin.bitAnd x (2 * y + 1) = 2 * Builtin.bitAnd (x / 2) y + x % 2 := by
  rw [ba_halves, show (2 * y + 1) / 2 = y by omega]
  split <;> omega
theorem dd {x a b : Int} (h : 0 ≤ a) : x / a / b = x / (a * b) := by rw [Int.ediv_ediv, if_neg (fun q => by omega), Int.sub_zero]
theorem ba_shift (x y : Int) : ∀ k : Nat, Builtin.bitAnd x (2 ^ k * y) = 2 ^ k * Builtin.bitAnd (x / 2 ^ k) y
  | 0 => by simp
  | k + 1 => by
    rw [Int.pow_succ, Int.mul_comm (2 ^ k) 2, Int.mul_assoc, ba_even, ba_shift (x / 2) y k, dd (by decide), Int.mul_assoc]
theorem ba_two (x : Int) (a d : Nat) : Builtin.bitAnd x (2 ^ a + 2 ^ (a + 1 + d)) = 2 ^ a * (x / 2 ^ a % 2) + 2 ^ (a + 1 + d) * (x / 2 ^ (a + 1 + d) % 2) := by
  have e : (2 : Int) ^ a + 2 ^ (a + 1 + d) = 2 ^ a * (2 * 2 ^ d + 1) := by
    rw [Int.mul_add, Int.mul_one, Int.pow_add, Int.pow_add, Int.pow_one, Int.mul_assoc, Int.add_comm]
  have e2 : x / 2 ^ a / 2 / 2 ^ d = x / 2 ^ (a + 1 + d) := by
    rw [dd (Int.le_of_lt (Int.pow_pos (by decide))), dd (Int.le_of_lt (Int.mul_pos (Int.pow_pos (by decide)) (by decide))), Int.pow_add, Int.pow_add, Int.pow_one]
  rw [e, ba_shift, ba_odd, kbt_bit, e2, Int.mul_add, ← Int.mul_assoc, ← Int.mul_assoc, Int.mul_comm (2 ^ a * 2) _, Int.mul_assoc _ _ (2 ^ d), Int.mul_comm (x / 2 ^ (a + 1 + d) % 2), Int.add_comm]
  rw [show (2 : Int) ^ (a + 1 + d) = 2 ^ a * 2 * 2 ^ d by rw [Int.pow_add, Int.pow_add, Int.pow_one]]
def bit_ (x : Int) (j : Nat) : Int := x / 2 ^ j % 2
theorem bit_01 (x : Int) (j : Nat) : bit_ x j = 0 ∨ bit_ x j = 1 := by unfold bit_; omega
theorem fm_one {x : Int} {i : Nat} (hi : i ≠ 0) (j : Nat) (c : Str) : fmSign x i [((2 : Int) ^ j, c)] = if bit_ x j = 1 then c else Str.ofString "-" := by
  have hp : (0 : Int) < 2 ^ j := Int.pow_pos (by decide)
  unfold fmSign
  rw [if_neg hi, fmPick, fmPick]
  unfold fmCond
  rw [if_neg hi, kbt_bit]
  change (if decide (bit_ x j * 2 ^ j = 2 ^ j) = true then c else _) = _
  rcases bit_01 x j with h | h <;> rw [h]
  · rw [if_neg (by rw [decide_eq_true_eq, Int.zero_mul]; omega), if_neg (by decide)]
  · rw [if_pos (by rw [decide_eq_true_eq, Int.one_mul]), if_pos rfl]
theorem fm_three {x : Int} {i : Nat} (hi : i ≠ 0) (a d : Nat) (c1 c2 c3 : Str) : fmSign x i [((2 : Int) ^ a + 2 ^ (a + 1 + d), c1), ((2 : Int) ^ (a + 1 + d), c2), ((2 : Int) ^ a, c3)] =
    if bit_ x (a + 1 + d) = 1 then (if bit_ x a = 1 then c1 else c2) else (if bit_ x a = 1 then c3 else Str.ofString "-") := by
  have hp : (0 : Int) < 2 ^ a := Int.pow_pos (by decide)
  have hq : (0 : Int) < 2 ^ (a + 1 + d) := Int.pow_pos (by decide)
  unfold fmSign
  rw [if_neg hi, fmPick, fmPick, fmPick, fmPick]
  unfold fmCond
  rw [if_neg hi, if_neg hi, if_neg hi, ba_two, kbt_bit, kbt_bit]
  change (if decide (2 ^ a * bit_ x a + 2 ^ (a + 1 + d) * bit_ x (a + 1 + d) = 2 ^ a + 2 ^ (a + 1 + d)) = true then c1 else if decide (bit_ x (a + 1 + d) * 2 ^ (a + 1 + d) = 2 ^ (a + 1 + d)) = true then c2 else if decide (bit_ x a * 2 ^ a = 2 ^ a) = true then c3 else _) = _
  generalize (2 : Int) ^ (a + 1 + d) = q at *
  generalize (2 : Int) ^ a = p at *
  rcases bit_01 x (a + 1 + d) with h | h <;> rcases bit_01 x a with h' | h' <;> rw [h, h'] <;> simp only [Int.mul_zero, Int.mul_one, Int.zero_mul, Int.one_mul, Int.zero_add, Int.add_zero, decide_eq_true_eq, if_true, if_false]
  · rw [if_neg (by omega), if_neg (by omega), if_neg (by omega), if_neg (by omega), if_neg (by omega)]
  · rw [if_neg (by omega), if_neg (by omega), if_neg (by omega)]
  · rw [if_neg (by omega), if_neg (by omega)]
theorem join_empty (a : Str) (l : List Str) : Txt.join (Str.ofString "") (a :: l) = a ++ Txt.join (Str.ofString "") l := by
  rw [show Txt.join (Str.ofString "") (a :: l) = Str.join (Str.ofString "") (a :: l) from StrLaws.glued_eq_join _ _, show Txt.join (Str.ofString "") l = Str.join (Str.ofString "") l from StrLaws.glued_eq_join _ _]
  have e : Str.ofString "" = Str.empty := rfl
  cases l with
  | nil => show a = a ++ Str.empty; exact (Str.append_empty a).symm
  | cons b l => show a ++ Str.ofString "" ++ _ = _; rw [e, Str.append_empty]
theorem bit_far (r c : Int) (j : Nat) : bit_ (2 ^ j * (2 * c) + r) j = bit_ r j := by
  unfold bit_
  rw [Int.add_comm, Int.add_mul_ediv_left _ _ (Int.ne_of_gt (Int.pow_pos (by decide)))]
  omega
theorem two_parts : ∀ j, j < 12 → (16384 : Int) = 2 ^ j * (2 * 2 ^ (13 - j)) ∧ (32768 : Int) = 2 ^ j * (2 * 2 ^ (14 - j)) := by decide +kernel
theorem bit_mode0 {r : Int} {j : Nat} (h0 : 0 ≤ r) (hj : j < 12) : bit_ (16384 + r) j = bit_ r j ∧ bit_ (32768 + r) j = bit_ r j := by
  have e := two_parts j hj
  exact ⟨(congrArg (fun x => bit_ (x + r) j) e.1).trans (bit_far _ _ _), (congrArg (fun x => bit_ (x + r) j) e.2).trans (bit_far _ _ _)⟩
theorem sgnBit_is {r : Int} (k : Int) (j : Nat) (h : (8 - k).toNat = j) : sgnBit r k = bit_ r j := by
  unfold sgnBit bit_
  rw [h, Int.fdiv_eq_ediv_of_nonneg _ (Int.le_of_lt (Int.pow_pos (by decide))), Int.fmod_eq_emod_of_nonneg _ (by decide)]
theorem sgnSet_is {r : Int} (k : Int) (j : Nat) (h : (11 - k.fdiv 3).toNat = j) : sgnSet r k = bit_ r j := by
  unfold sgnSet bit_
  rw [h, Int.fdiv_eq_ediv_of_nonneg _ (Int.le_of_lt (Int.pow_pos (by decide))), Int.fmod_eq_emod_of_nonneg _ (by decide)]
theorem sg0 {r k : Int} {j : Nat} {c : Str} (hk : k.fmod 3 ≠ 2) (hj : (8 - k).toNat = j) (hc : Txt.item (Str.ofString "-rwx") ((k.fmod 3 + 1) * 1) = c) : sgn r k = if bit_ r j = 1 then c else Str.ofString "-" := by
  unfold sgn
  rw [if_neg (fun h => hk h.1), sgnBit_is k j hj]
  rcases bit_01 r j with h | h <;> rw [h]
  · rw [Int.mul_zero, if_neg (by decide)]; rfl
  · rw [if_pos rfl, hc]
theorem sg2 {r k : Int} {j jj : Nat} {c1 c2 c3 : Str} (hk : k.fmod 3 = 2) (hj : (8 - k).toNat = j) (hjj : (11 - k.fdiv 3).toNat = jj) (h1 : Txt.item (sgnTab.getD (k.fdiv 3).toNat Str.empty) 1 = c1) (h0 : Txt.item (sgnTab.getD (k.fdiv 3).toNat Str.empty) 0 = c2) (h3 : Txt.item (Str.ofString "-rwx") ((2 + 1) * 1) = c3) :
    sgn r k = if bit_ r jj = 1 then (if bit_ r j = 1 then c1 else c2) else (if bit_ r j = 1 then c3 else Str.ofString "-") := by
  unfold sgn
  rw [sgnSet_is k jj hjj, sgnBit_is k j hj, hk]
  rcases bit_01 r jj with h | h <;> rcases bit_01 r j with h' | h' <;> rw [h, h']
  · rw [if_neg (by decide), if_neg (by decide), if_neg (by decide), Int.mul_zero]; rfl
  · rw [if_neg (by decide), if_neg (by decide), if_pos rfl, h3]
  · rw [if_pos (by decide), if_pos rfl, if_neg (by decide), h0]
  · rw [if_pos (by decide), if_pos rfl, if_pos rfl, h1]
theorem fm_text {m r : Int} {f : Bool} (hb : ∀ j, j < 12 → bit_ m j = bit_ r j) (h0 : fmSign m 0 (fmTabs.getD 0 []) = if f = true then Str.ofString "d" else Str.ofString "-") :
    Txt.join (Str.ofString "") (fmSigns m 0 fmTabs) = sgnText f r 9 := by
  have f0 : fmSign m 1 [(256, Str.ofString "r")] = if bit_ r 8 = 1 then Str.ofString "r" else Str.ofString "-" := by rw [← hb 8 (by decide)]; exact fm_one (by decide) 8 _
  have f1 : fmSign m 2 [(128, Str.ofString "w")] = if bit_ r 7 = 1 then Str.ofString "w" else Str.ofString "-" := by rw [← hb 7 (by decide)]; exact fm_one (by decide) 7 _
  have f2 : fmSign m 3 [(2112, Str.ofString "s"), (2048, Str.ofString "S"), (64, Str.ofString "x")] = if bit_ r 11 = 1 then (if bit_ r 6 = 1 then Str.ofString "s" else Str.ofString "S") else (if bit_ r 6 = 1 then Str.ofString "x" else Str.ofString "-") := by rw [← hb 6 (by decide), ← hb 11 (by decide)]; exact fm_three (by decide) 6 4 _ _ _
  have f3 : fmSign m 4 [(32, Str.ofString "r")] = if bit_ r 5 = 1 then Str.ofString "r" else Str.ofString "-" := by rw [← hb 5 (by decide)]; exact fm_one (by decide) 5 _
  have f4 : fmSign m 5 [(16, Str.ofString "w")] = if bit_ r 4 = 1 then Str.ofString "w" else Str.ofString "-" := by rw [← hb 4 (by decide)]; exact fm_one (by decide) 4 _
  have f5 : fmSign m 6 [(1032, Str.ofString "s"), (1024, Str.ofString "S"), (8, Str.ofString "x")] = if bit_ r 10 = 1 then (if bit_ r 3 = 1 then Str.ofString "s" else Str.ofString "S") else (if bit_ r 3 = 1 then Str.ofString "x" else Str.ofString "-") := by rw [← hb 3 (by decide), ← hb 10 (by decide)]; exact fm_three (by decide) 3 6 _ _ _
  have f6 : fmSign m 7 [(4, Str.ofString "r")] = if bit_ r 2 = 1 then Str.ofString "r" else Str.ofString "-" := by rw [← hb 2 (by decide)]; exact fm_one (by decide) 2 _
  have f7 : fmSign m 8 [(2, Str.ofString "w")] = if bit_ r 1 = 1 then Str.ofString "w" else Str.ofString "-" := by rw [← hb 1 (by decide)]; exact fm_one (by decide) 1 _
  have f8 : fmSign m 9 [(513, Str.ofString "t"), (512, Str.ofString "T"), (1, Str.ofString "x")] = if bit_ r 9 = 1 then (if bit_ r 0 = 1 then Str.ofString "t" else Str.ofString "T") else (if bit_ r 0 = 1 then Str.ofString "x" else Str.ofString "-") := by rw [← hb 0 (by decide), ← hb 9 (by decide)]; exact fm_three (by decide) 0 8 _ _ _
  have g0 : sgn r ((0 : Nat) : Int) = if bit_ r 8 = 1 then Str.ofString "r" else Str.ofString "-" := sg0 (by decide +kernel) (by decide +kernel) (by decide +kernel)
  have g1 : sgn r ((1 : Nat) : Int) = if bit_ r 7 = 1 then Str.ofString "w" else Str.ofString "-" := sg0 (by decide +kernel) (by decide +kernel) (by decide +kernel)
  have g2 : sgn r ((2 : Nat) : Int) = if bit_ r 11 = 1 then (if bit_ r 6 = 1 then Str.ofString "s" else Str.ofString "S") else (if bit_ r 6 = 1 then Str.ofString "x" else Str.ofString "-") := sg2 (by decide +kernel) (by decide +kernel) (by decide +kernel) (by decide +kernel) (by decide +kernel) (by decide +kernel)
  have g3 : sgn r ((3 : Nat) : Int) = if bit_ r 5 = 1 then Str.ofString "r" else Str.ofString "-" := sg0 (by decide +kernel) (by decide +kernel) (by decide +kernel)
  have g4 : sgn r ((4 : Nat) : Int) = if bit_ r 4 = 1 then Str.ofString "w" else Str.ofString "-" := sg0 (by decide +kernel) (by decide +kernel) (by decide +kernel)
  have g5 : sgn r ((5 : Nat) : Int) = if bit_ r 10 = 1 then (if bit_ r 3 = 1 then Str.ofString "s" else Str.ofString "S") else (if bit_ r 3 = 1 then Str.ofString "x" else Str.ofString "-") := sg2 (by decide +kernel) (by decide +kernel) (by decide +kernel) (by decide +kernel) (by decide +kernel) (by decide +kernel)
  have g6 : sgn r ((6 : Nat) : Int) = if bit_ r 2 = 1 then Str.ofString "r" else Str.ofString "-" := sg0 (by decide +kernel) (by decide +kernel) (by decide +kernel)
  have g7 : sgn r ((7 : Nat) : Int) = if bit_ r 1 = 1 then Str.ofString "w" else Str.ofString "-" := sg0 (by decide +kernel) (by decide +kernel) (by decide +kernel)
  have g8 : sgn r ((8 : Nat) : Int) = if bit_ r 9 = 1 then (if bit_ r 0 = 1 then Str.ofString "t" else Str.ofString "T") else (if bit_ r 0 = 1 then Str.ofString "x" else Str.ofString "-") := sg2 (by decide +kernel) (by decide +kernel) (by decide +kernel) (by decide +kernel) (by decide +kernel) (by decide +kernel)
  have e : fmSigns m 0 fmTabs = [if f = true then Str.ofString "d" else Str.ofString "-", sgn r ((0 : Nat) : Int), sgn r ((1 : Nat) : Int), sgn r ((2 : Nat) : Int), sgn r ((3 : Nat) : Int), sgn r ((4 : Nat) : Int), sgn r ((5 : Nat) : Int), sgn r ((6 : Nat) : Int), sgn r ((7 : Nat) : Int), sgn r ((8 : Nat) : Int)] := by
    rw [g0, g1, g2, g3, g4, g5, g6, g7, g8, ← h0, ← f0, ← f1, ← f2, ← f3, ← f4, ← f5, ← f6, ← f7, ← f8]
    rfl
  rw [e]
  simp only [join_empty, sgnText]
  rw [show Txt.join (Str.ofString "") [] = Str.empty from rfl, Str.append_empty]
  simp only [Str.append_assoc]
theorem fm_first {r : Int} (h0 : 0 ≤ r) (h1 : r < 4096) : fmSign (16384 + r) 0 (fmTabs.getD 0 []) = Str.ofString "d" ∧ fmSign (32768 + r) 0 (fmTabs.getD 0 []) = Str.ofString "-" := by
  have e : ∀ x : Int, Builtin.bitAnd x 61440 = 4096 * (x / 4096 % 16) := fun x => by
    have := ba_shift x 15 12
    rw [bitAnd_m4] at this
    exact this
  constructor
  · have : Builtin.bitAnd (16384 + r) 61440 = 16384 := by rw [e]; omega
    simp only [fmSign, fmTabs, List.getD_cons_zero, fmPick, fmCond, this, if_true]
    decide +kernel
  · have : Builtin.bitAnd (32768 + r) 61440 = 32768 := by rw [e]; omega
    simp only [fmSign, fmTabs, List.getD_cons_zero, fmPick, fmCond, this, if_true]
    decide +kernel
theorem mod4096_in (x : Int) : 0 ≤ x.fmod 4096 ∧ x.fmod 4096 < 4096 := ⟨Int.fmod_nonneg_of_pos _ (by decide), Int.fmod_lt_of_pos x (b := 4096) (by decide)⟩
theorem fm_is (x : Int) : Txt.join (Str.ofString "") (fmSigns (modeOf x) 0 fmTabs) = sgnText (decide (x.fmod 2 = 0)) ((x.fdiv 2).fmod 4096) 9 := by
  have hr := mod4096_in (x.fdiv 2)
  have hf := fm_first hr.1 hr.2
  unfold modeOf
  by_cases h : x.fmod 2 = 0
  · rw [if_pos h]
    exact fm_text (fun j hj => (bit_mode0 hr.1 hj).1) (by rw [hf.1, if_pos (decide_eq_true h)])
  · rw [if_neg h]
    exact fm_text (fun j hj => (bit_mode0 hr.1 hj).2) (by rw [hf.2, if_neg (by rw [decide_eq_true_eq]; exact h)])
end Mine
end
section
open PySem PySem.W PyProof.Rows PySem.Calls
set_option maxRecDepth 100000
set_option linter.unusedVariables false
namespace Mine
theorem look_bytes_len : typeLookup (.type "bytes") "__len__" = pure (some (.builtin "bytes.__len__")) := by rw [typeLookup_type, builtinLookup_eq_fast]; kernel_rfl
abbrev ByteAt (b : Array UInt8) (i : Nat) (v : Value) : Prop := ∃ c u, b[i]? = some c ∧ v = .int (c.toNat : Int) u
theorem intsAre_items {b : Array UInt8} : ∀ {vs : List Value} {ks : List Int} (k : Nat), (b.toList.drop k).map (fun c : UInt8 => ((c.toNat : Nat) : Int)) = ks → vs.length = ks.length → (∀ j v, vs[j]? = some v → ByteAt b (k + j) v) → IntsAre vs ks
  | [], [], _, _, _, _ => .nil
  | [], _ :: _, _, _, h, _ => by cases h
  | _ :: _, [], _, _, h, _ => by cases h
  | v :: vs, n :: ks, k, e, hl, h => by
    obtain ⟨c, u, hc, rfl⟩ := h 0 v rfl
    have hc' : b.toList[k]? = some c := by simpa using hc
    obtain ⟨hlt, hg⟩ := List.getElem?_eq_some_iff.mp hc'
    rw [List.drop_eq_getElem_cons hlt, List.map_cons, hg] at e
    injection e with e1 e2
    subst e1
    refine .cons _ _ (intsAre_items (k + 1) e2 (by simpa using hl) fun j v hj => ?_)
    have := h (j + 1) v (by simpa using hj)
    rwa [show k + (j + 1) = k + 1 + j by omega] at this
section
variable {prog : Program} {w : World} {A : Around} {E : Value → Shared → Prop} {s : Shared}
theorem init_bytes {R : Result → Shared → Prop} (hh : A.handled = none) (b : Array UInt8) (t : Tok) (S : Addr) (hS : s.heap.get? S = some { cls := .type "list", data := .seq #[] })
    (hR : ∀ h' tk acc' c', (∀ b o, b ≠ S → s.heap.get? b = some o → h'.get? b = some o) → h'.get? S = some { cls := .type "list", dict := none, data := .seq acc' c', slots := #[] } →
      ItemsOf (ByteAt b) acc' b.size → R (.ok (.ret .none)) { s with heap := h', toks := tk }) (hn : b.size ≤ sizeLine) :
    wpAny (model prog w) A.in1 (Builtin.«list.__init__» ⟨[.ref S, .bytes b t], []⟩)
      (fun fin s' => match fin with | .done f => R (.ok f) s' | .again c' => c'.quiet = true ∧ codeAny (model prog w) A c' R s') (fun e s' => R (.error e) s') s := by
  show wpAny _ _ (do let old ← Builtin.List.listItems (.ref S); Builtin.List.listUpdate (.ref S) (fun _ => #[]); letGo old.toList.reverse; Builtin.List.listExtendWith (.ref S) (.bytes b t) .none) _ _ s
  refine wpAny_bind ?_
  unfold Builtin.List.listItems
  refine wpAny_bind (wpAny_seqItems hS rfl (wpAny_pure ?_))
  show wpAny _ _ (updateSeq S (fun _ => #[]) >>= fun _ => letGo (#[] : Array Value).toList.reverse >>= fun _ => Builtin.List.listExtendWith (.ref S) (.bytes b t) .none) _ _ s
  refine wpAny_bind (wpAny_updateSeq hS rfl ?_)
  have hS₂ := Heap.get?_update_self (Obj.mapSeq (fun _ => (#[] : Array Value))) hS rfl
  have oth : ∀ a o, a ≠ S → s.heap.get? a = some o → (s.heap.update S (Obj.mapSeq (fun _ => (#[] : Array Value)))).get? a = some o :=
    fun a o ha e => (Heap.get?_update_other _ _ (Ne.symm ha)).trans e
  refine wpAny_bind (wpAny_letGo ?_)
  generalize s.heap.update S (Obj.mapSeq (fun _ => (#[] : Array Value))) = H at *
  have hSI : S ≠ H.objs.size := Nat.ne_of_lt (Heap.lt_size hS₂)
  have hSf : S ∉ [H.objs.size] := fun hm => hSI (List.mem_singleton.mp hm)
  unfold Builtin.List.listExtendWith
  refine wpAny_bind (wpAny_typeOf (T := "bytes") (v := .bytes b t) rfl ?_)
  have h1 : Builtin.List.listSameRef (.ref S) (.bytes b t) = false := rfl
  have h2 : (Value.type "bytes" == Value.type "list") = false := by decide
  have h3 : (Value.type "bytes" == Value.type "tuple") = false := by decide
  simp only [h1, h2, h3, Bool.or_false, Bool.false_eq_true, if_false]
  refine wpAny_bind (KBw.pyIter_bytes ?_)
  refine wpAny_bind (wpAny_holding ?_)
  unfold Builtin.List.listLengthHint
  refine wpAny_bind (wpAny_specialOf (T := "bytes") (v := .bytes b t) rfl look_bytes_len ?_)
  wp_delta
  refine wpAny_bind (wpAny_isInstance (T := "bytes") (v := .bytes b t) (b := true) rfl (by rw [isSubtype_type]; kernel_rfl) ?_)
  show wpAny _ _ (typeOf (Value.bytes b t) >>= _) _ _ _
  refine wpAny_bind (wpAny_typeOf (T := "bytes") (v := .bytes b t) rfl ?_)
  refine wpAny_pure ?_
  rw [if_neg (by decide)]
  refine wpAny_pure ⟨plainId_quiet F.plain_extend_loop _, codeAny_extend_loopS (KBw.walks (A := A.in1) hh H.objs.size b t).toS hn _ hSf _ b.size 0 _ _ _ rfl (Nat.zero_le _) ⟨_, Heap.get?_push_size _ rfl, rfl, rfl⟩ (Heap.get?_push_of_some _ hS₂) (ItemsOf.nil _) fun s' acc' c' hm hS' hacc => ?_⟩
  rw [Moved.eq_with hm]
  refine hR s'.heap s'.toks acc' c' (fun a ob ha e => hm.heap a ob (fun hmem => ?_) (Heap.get?_push_of_some _ (oth a ob ha e))) hS' hacc
  rcases List.mem_cons.mp hmem with e' | hmem
  · exact ha e'
  · exact absurd (Heap.lt_size (oth a ob ha e)) (by rw [List.mem_singleton.mp hmem]; exact Nat.lt_irrefl _)
theorem call_list_bytes {Q : Value → Shared → Prop} {b : Array UInt8} {t : Tok} {ks : List Int} (hh : A.handled = none) (hk : KBw.bInts b = ks)
    (hQ : ∀ h' tk vs c', (∀ a o, s.heap.get? a = some o → h'.get? a = some o) → h'.get? s.heap.objs.size = some (W.listOf (List.toArray vs) c') → IntsAre vs ks → Q (.ref s.heap.objs.size) { s with heap := h', toks := tk }) (hn : b.size ≤ sizeLine) :
    wpAny (model prog w) A (call (.type "list") [.bytes b t]) Q E s := by
  refine callType_codes (Q₁ := fun obj s₁ => obj = .ref s.heap.objs.size ∧ s₁ = { s with heap := s.heap.push { cls := .type "list", data := .seq #[] } }) F.called_list (F.typeCall_list_1 _) F.entry_list_init
    (code_list_new _ ⟨rfl, rfl⟩) fun obj s₁ h₁ => ?_
  obtain ⟨rfl, rfl⟩ := h₁
  have hS : (s.heap.push { cls := .type "list", data := .seq #[] }).get? s.heap.objs.size = some { cls := .type "list", data := .seq #[] } := Heap.get?_push_size _ rfl
  refine ⟨⟨_, hS, rfl⟩, F.args_list_init_2 _ _, init_bytes (A := A.in1) hh b t _ hS (fun h' tk acc' c' hk' hS' hacc => ?_) hn⟩
  refine ⟨rfl, hQ h' tk acc'.toList c' (fun a o e => hk' a o (Nat.ne_of_lt (Heap.lt_size e)) (Heap.get?_push_of_some _ e)) (by rw [hS']) ?_⟩
  refine intsAre_items 0 hk ?_ fun j v hj => ?_
  · rw [← hk, KBw.ints_length, Array.length_toList]; exact hacc.1
  · rw [Nat.zero_add]; exact hacc.2 j v (by simpa using hj)
end
end Mine
end
section
open PySem PySem.W PyProof.Rows PySem.Calls
set_option maxRecDepth 100000
set_option maxHeartbeats 0
set_option rowWalk.seconds 0
set_option linter.unusedVariables false
namespace Mine
section
variable {w : World} {A : Around} {E : Value → Shared → Prop} {s : Shared} {p : Program} {loose : List Str} {mean : ExcName → Option Value} {mg mb : Str → Option Value} {Q : Value → Shared → Prop}
def sixLetters : Str := Str.ofString "ABCDEFGHIJKLMNOPQRSTUVWXYZabcdefghijklmnopqrstuvwxyz0123456789" ++ Str.ofString "+/"
def hornAt (vs : List Int) (i : Nat) : Int := (vs.take i).foldl (fun a v => a * 256 + v) 0
theorem hornAt_succ {vs : List Int} {i : Nat} {v : Int} (h : vs[i]? = some v) : hornAt vs (i + 1) = hornAt vs i * 256 + v := by
  rw [hornAt, List.take_add_one, h, Option.toList_some, List.foldl_append]; rfl
def sixAt (num : Int) (i : Nat) : Str := Txt.item sixLetters ((num.fdiv (64 ^ (3 + (i : Int) * (-1)).toNat)).fmod 64)
def padOf (ns : List Int) : List Int := ns ++ List.replicate (3 - ns.length) 0
def sixStr (ns : List Int) : Str := Txt.join (Str.ofString "") ((List.range (1 + ns.length)).map (sixAt (hornAt (padOf ns) 3))) ++ Txt.mul (Str.ofString "=") ((3 - ns.length : Nat) : Int)
theorem mod64_in (x : Int) : 0 ≤ x.fmod 64 ∧ x.fmod 64 < 64 := ⟨Int.fmod_nonneg_of_pos _ (by decide), Int.fmod_lt_of_pos x (b := 64) (by decide)⟩
theorem pow64_py {k : Int} (h0 : 0 ≤ k) (h1 : k ≤ 3) : ((64 : Int) ^ k.toNat).natAbs.log2 < 9000 := by
  have : k = 0 ∨ k = 1 ∨ k = 2 ∨ k = 3 := by omega
  rcases this with rfl | rfl | rfl | rfl <;> decide +kernel
theorem pow64_ne (k : Int) : ((64 : Int) ^ k.toNat) ≠ 0 := Int.ne_of_gt (pow_pos_of (by decide) _)
theorem sixLetters_len : sixLetters.length = 64 := by decide +kernel
theorem horn_in {vs : List Int} (hr : ∀ v ∈ vs, 0 ≤ v ∧ v < 256) (hl : vs.length ≤ 3) : ∀ i, 0 ≤ hornAt vs i ∧ hornAt vs i < 16777216 := by
  intro i
  have key : ∀ (l : List Int) (a : Int), (∀ v ∈ l, 0 ≤ v ∧ v < 256) → 0 ≤ a → 0 ≤ l.foldl (fun a v => a * 256 + v) a ∧ l.foldl (fun a v => a * 256 + v) a < (a + 1) * 256 ^ l.length := by
    intro l
    induction l with
    | nil => intro a _ h; simp; omega
    | cons v l ih =>
      intro a h ha
      have hv := h v (by simp)
      have := ih (a * 256 + v) (fun x hx => h x (by simp [hx])) (by omega)
      refine ⟨this.1, Int.lt_of_lt_of_le this.2 ?_⟩
      rw [List.length_cons, Int.pow_succ, Int.mul_comm (256 ^ l.length : Int) 256, ← Int.mul_assoc]
      exact Int.mul_le_mul_of_nonneg_right (by omega) (Int.le_of_lt (Int.pow_pos (by decide)))
  have h1 := key (vs.take i) 0 (fun v hv => hr v (List.mem_of_mem_take hv)) (by decide)
  have h2 : (vs.take i).length ≤ 3 := by rw [List.length_take]; omega
  refine ⟨h1.1, Int.lt_of_lt_of_le h1.2 ?_⟩
  have : (vs.take i).length = 0 ∨ (vs.take i).length = 1 ∨ (vs.take i).length = 2 ∨ (vs.take i).length = 3 := by omega
  rcases this with h | h | h | h <;> rw [h] <;> decide
theorem IntsAre.at' {vs : List Value} {ns : List Int} (h : IntsAre vs ns) : ∀ {i : Nat} {v : Value}, vs[i]? = some v → ∃ n t, ns[i]? = some n ∧ v = .int n t := by
  induction h with
  | nil => intro i v e; cases e
  | cons n t h ih =>
    intro i v e
    cases i with
    | zero => cases e; exact ⟨n, t, rfl, rfl⟩
    | succ i => exact ih (by simpa using e)
theorem ne_of_data {h : Heap} {a b : Addr} {o o' : Obj} (ha : h.get? a = some o) (hb : h.get? b = some o') (hd : o.data = o'.data → False) : a ≠ b := fun e => by
  rw [e, hb] at ha; cases ha; exact hd rfl
theorem six_one (x : Int) (n : Nat) : ∀ y ∈ (List.range n).map (sixAt x), y.length ≤ 1 := by
  intro y hy
  obtain ⟨i, _, rfl⟩ := List.mem_map.mp hy
  exact Nat.le_refl _
theorem six_small (x : Int) {n : Nat} (hn : n ≤ 4) : (((List.range n).map (sixAt x)).map (·.length)).sum + ((List.range n).map (sixAt x)).length * 64 ≤ 16777216 := by
  have h1 := StrLaws.sumLen_le (B := 1) _ (six_one x n)
  have h2 : ((List.range n).map (sixAt x)).length = n := by simp
  omega
theorem six_len (x : Int) (n : Nat) : (Txt.join (Str.ofString "") ((List.range n).map (sixAt x))).length ≤ n := by
  have h2 : ((List.range n).map (sixAt x)).length = n := by simp
  have h1 := StrLaws.sumLen_le (B := 1) _ (six_one x n)
  generalize (List.range n).map (sixAt x) = l at *
  cases l with
  | nil => exact Nat.zero_le _
  | cons a l =>
    have := len_join_cons (Str.ofString "") a l
    rw [show (Str.ofString "").length = 0 from rfl, Nat.mul_zero, Nat.add_zero] at this
    rw [show Txt.join (Str.ofString "") (a :: l) = Str.join (Str.ofString "") (a :: l) from StrLaws.glued_eq_join _ _]
    omega
inductive ZJ (bv : Value) (sz : Int) (c1 c2 : Addr) (vs : List Int) (i : Nat) (m : Str → Option Value) (news : List (Addr × Obj)) : Prop
  | intro : ∀ o1 o2 t1 t2 ts, (m (Str.ofString "octets") = some bv) → (m (Str.ofString "size") = some (.int sz ts)) → (news = [(c1, o1), (c2, o2)]) → (o1.data = .cell (some (.int (hornAt vs i) t1))) → (o2.data = .cell (some (.str sixLetters t2))) → ZJ bv sz c1 c2 vs i m news
/-- what the list that the loop goes over holds: the octets, filled up with zeros -/
inductive SixP (B : Heap) (L : Addr) (m : Str → Option Value) (ns : List Int) (g : Array GenState) (d : Drawn) (os : OsState) : Value → Shared → Prop
  | intro (a : Addr) (h : Heap) (tk : Nat) (vs : List Value) (o1 o2 : Obj) (t1 t2 : Tok) : Fr B L h m → h.IsList a vs.toArray → a ≠ L → a ≠ L + 1 + 1 → News B L h [(L + 1 + 1, o1), (L + 1, o2)] →
    o1.data = .cell (some (.int 0 t1)) → o2.data = .cell (some (.str sixLetters t2)) → IntsAre vs (padOf ns) → SixP B L m ns g d os (.ref a) ⟨h, g, d, tk, os⟩
theorem six_cut {M : Model} {A : Around} {T : Sem Value} {Q : Value → Shared → Prop} {E : Value → Shared → Prop} {s : Shared} {B h : Heap} {L : Addr} {m : Str → Option Value} (F : Fr B L h m) (ns : List Int) (g : Array GenState) (d : Drawn) (os : OsState)
    (hA : wpAny M A T (SixP B L m ns g d os) E s) (k : ∀ v s', SixP B L m ns g d os v s' → Q v s') : wpAny M A T Q E s := wpAny_mono hA k fun _ _ x => x
theorem pad_len {ns : List Int} (h : ns.length ≤ 3) : (padOf ns).length = 3 := by
  unfold padOf; rw [List.length_append, List.length_replicate]; omega
theorem six_size {k : Nat} (h1 : 1 ≤ k) (h3 : k ≤ 3) : Int.fmod (-(k : Int)) 3 = 3 - (k : Int) := by
  have : k = 1 ∨ k = 2 ∨ k = 3 := by omega
  rcases this with rfl | rfl | rfl <;> rfl
theorem six_range {sz : Int} {n : Nat} (h : sz = 3 - (n : Int)) (h1 : 1 ≤ n) (h3 : n ≤ 3) : Builtin.Range.small 3 (sz - 1) (-1) = true ∧ Builtin.Range.rangeSize 3 (sz - 1) (-1) = ((1 + n : Nat) : Int) := by
  subst h
  have : n = 1 ∨ n = 2 ∨ n = 3 := by omega
  rcases this with rfl | rfl | rfl <;> decide +kernel
theorem six_many {sz : Int} {n : Nat} (h : sz = 3 - (n : Int)) : ((n : Int) + sz).fdiv 3 * 4 - 1 = 3 := by
  rw [show (n : Int) + sz = 3 by omega]; rfl
local macro_rules | `(tactic| walk_at "eval ListComp") => `(tactic| (refine hold ?_))
local macro_rules | `(tactic| walk_at "call type:list") => `(tactic| (refine hold ?_))
local macro_rules | `(tactic| walk_at "exec For Name BinOp cons nil") => `(tactic| (refine hold ?_))
local macro_rules | `(tactic| walk_at "call type:range") => `(tactic| (refine hold ?_))
local macro_rules | `(tactic| walk_at "subscriptTail Name BinOp str int") => `(tactic| (refine hold ?_))
local macro_rules | `(tactic| walk_at "call builtin:str.join") => `(tactic| (refine hold ?_))
local macro_rules | `(tactic| walk_at "binaryOp Pow int int") => `(tactic| (with_reducible refine pow_int_small ?kb1 ?kb2 ?kb3 ?_; (case kb1 => omega); (case kb2 => omega); (case kb3 => decide)))
local macro_rules | `(tactic| walk_at "binaryOp FloorDiv int int") => `(tactic| (with_reducible refine floordiv_int ?kbe ?_ (Or.inl (PyProof.noPylong_of_log2 (pow64_py ?kbp ?kbq))); (case kbe => exact pow64_ne _); (case kbp => omega); (case kbq => omega)))
local macro_rules | `(tactic| walk_at "storeName") => `(tactic| (k_here; k_dflt (refine' storeX_C ?F ?N ?c (UpdF.head ?U) ?d ?_ ?a ?b; (case a => rfl); (case b => rfl); (case F => k_asm); (case N => k_asm); (case c => rfl); (case U => assumption); (case d => k_asm)); intro h' o' F' N' d'))
theorem c_sixes {b : Array UInt8} {t u : Tok} {ns : List Int} (hb : KBw.bInts b = ns) (hr : ∀ n ∈ ns, 0 ≤ n ∧ n < 256) (hl : 1 ≤ ns.length ∧ ns.length ≤ 3) (R : Ready (Mine.hd.heap_1 w.params) p loose mean mg mb A 5 s.heap)
    (ret : ∀ t h' tk, Kp s.heap h' → Q (.str (sixStr ns) t) { s with heap := h', toks := tk }) :
    On PySem.Challenge.rw_qh0025_01 Mine.hd.heap_1 (wpAny (model prog w) A (call (.ref 265) [.bytes b t, .str (Str.ofString "+/") u] ) Q E s) := by
  k_fill
  unfold On
  k_dflt (refine' enterC (n := 4) R ?k6 ?k7 ?k9 ?kB ?kD ?_ ?c2 ?c3 ?c4; (case k6 => k_is); (case k7 => k_is); (case k9 => exact BindsTo.of_eq rfl); (case kB => exact rfl); (case kD => decide +kernel); (case c2 => exact rfl); (case c3 => exact rfl); (case c4 => exact rfl))
  intro dp fr gd un L h1 tk1 cells hdp hun R1 F0 N0 Y0 X0 T0
  (try dsimp only)
  k_cells Y0
  have hbsz : b.size ≤ sizeLine := by
    have := congrArg List.length hb
    rw [KBw.ints_length] at this
    simp only [sizeLine]
    omega
  k_steps
  refine unhold (For_G ?_)
  rename Fr _ _ _ _ => F2
  have hsz := six_size hl.1 hl.2
  generalize hsq : Int.fmod (-(ns.length : Int)) 3 = sz at *
  refine six_cut F2 ns s.gens s.drawn s.os ?_ ?_
  · clear ret hr R1
    match ns, hl with
    | [n0], _ =>
      obtain rfl : sz = 2 := hsz
      k_steps
      rename Fr _ _ _ _ => F2
      rename News _ _ _ _ => N2
      refine unhold (call_list_bytes rfl hb (fun h3 tk3 vs3 c3 k3 hg3 hi3 => ?_) hbsz)
      have hL3 := F2.ns.lt
      replace F2 := frKp F2 k3
      have N3 := newsAdd F2 (newsKp N2 k3) hg3 hL3
      clear N2 k3 hg3
      cases hi3 with
      | cons _ qt0 hi3 =>
      cases hi3
      k_steps
      rename Fr _ _ _ _ => F5
      rename News _ _ _ _ => N5
      obtain ⟨o1, o2, t1, t2, N6, d1, d2⟩ : ∃ o1 o2 t1 t2, News s.heap L _ [(L + 1 + 1, o1), (L + 1, o2)] ∧ o1.data = .cell (some (.int 0 t1)) ∧ o2.data = .cell (some (.str sixLetters t2)) := ⟨_, _, _, _, newsSub N5 (List.forall_mem_cons.mpr ⟨by k_mem, List.forall_mem_cons.mpr ⟨by k_mem, fun _ h => (nomatch h)⟩⟩), by assumption, by assumption⟩
      have hl5 := N5 _ (.head _)
      have hne1 := ne_of_data hl5.1 (N6 _ (.head _)).1 (fun e => by rw [d1] at e; cases e)
      dsimp only at hne1
      exact unhold (SixP.intro _ _ _ [.int n0 qt0, .int 0 _, .int 0 _] o1 o2 t1 t2 F5 ⟨_, hl5.1, rfl, _, rfl⟩ hl5.2.1 hne1 N6 d1 d2 (.cons _ _ (.cons _ _ (.cons _ _ .nil))))
    | [n0, n1], _ =>
      obtain rfl : sz = 1 := hsz
      k_steps
      rename Fr _ _ _ _ => F2
      rename News _ _ _ _ => N2
      refine unhold (call_list_bytes rfl hb (fun h3 tk3 vs3 c3 k3 hg3 hi3 => ?_) hbsz)
      have hL3 := F2.ns.lt
      replace F2 := frKp F2 k3
      have N3 := newsAdd F2 (newsKp N2 k3) hg3 hL3
      clear N2 k3 hg3
      cases hi3 with
      | cons _ qt0 hi3 =>
      cases hi3 with
      | cons _ qt1 hi3 =>
      cases hi3
      k_steps
      rename Fr _ _ _ _ => F5
      rename News _ _ _ _ => N5
      obtain ⟨o1, o2, t1, t2, N6, d1, d2⟩ : ∃ o1 o2 t1 t2, News s.heap L _ [(L + 1 + 1, o1), (L + 1, o2)] ∧ o1.data = .cell (some (.int 0 t1)) ∧ o2.data = .cell (some (.str sixLetters t2)) := ⟨_, _, _, _, newsSub N5 (List.forall_mem_cons.mpr ⟨by k_mem, List.forall_mem_cons.mpr ⟨by k_mem, fun _ h => (nomatch h)⟩⟩), by assumption, by assumption⟩
      have hl5 := N5 _ (.head _)
      have hne1 := ne_of_data hl5.1 (N6 _ (.head _)).1 (fun e => by rw [d1] at e; cases e)
      dsimp only at hne1
      exact unhold (SixP.intro _ _ _ [.int n0 qt0, .int n1 qt1, .int 0 _] o1 o2 t1 t2 F5 ⟨_, hl5.1, rfl, _, rfl⟩ hl5.2.1 hne1 N6 d1 d2 (.cons _ _ (.cons _ _ (.cons _ _ .nil))))
    | [n0, n1, n2], _ =>
      obtain rfl : sz = 0 := hsz
      k_steps
      rename Fr _ _ _ _ => F2
      rename News _ _ _ _ => N2
      refine unhold (call_list_bytes rfl hb (fun h3 tk3 vs3 c3 k3 hg3 hi3 => ?_) hbsz)
      have hL3 := F2.ns.lt
      replace F2 := frKp F2 k3
      have N3 := newsAdd F2 (newsKp N2 k3) hg3 hL3
      clear N2 k3 hg3
      cases hi3 with
      | cons _ qt0 hi3 =>
      cases hi3 with
      | cons _ qt1 hi3 =>
      cases hi3 with
      | cons _ qt2 hi3 =>
      cases hi3
      k_steps
      rename Fr _ _ _ _ => F5
      rename News _ _ _ _ => N5
      obtain ⟨o1, o2, t1, t2, N6, d1, d2⟩ : ∃ o1 o2 t1 t2, News s.heap L _ [(L + 1 + 1, o1), (L + 1, o2)] ∧ o1.data = .cell (some (.int 0 t1)) ∧ o2.data = .cell (some (.str sixLetters t2)) := ⟨_, _, _, _, newsSub N5 (List.forall_mem_cons.mpr ⟨by k_mem, List.forall_mem_cons.mpr ⟨by k_mem, fun _ h => (nomatch h)⟩⟩), by assumption, by assumption⟩
      have hl5 := N5 _ (.head _)
      have hne1 := ne_of_data hl5.1 (N6 _ (.head _)).1 (fun e => by rw [d1] at e; cases e)
      dsimp only at hne1
      exact unhold (SixP.intro _ _ _ [.int n0 qt0, .int n1 qt1, .int n2 qt2] o1 o2 t1 t2 F5 ⟨_, hl5.1, rfl, _, rfl⟩ hl5.2.1 hne1 N6 d1 d2 (.cons _ _ (.cons _ _ (.cons _ _ .nil))))
  · rintro v s' ⟨a, h5, tk5, vs, o1, o2, t1, t2, F5, hIs, haL, hne1, N6, d1, d2, hiv⟩
    have hv3 : vs.length = 3 := hiv.length.trans (pad_len hl.2)
    refine unhold (iterG (vs := vs) (J := ZJ (.bytes b t) sz (L + 1 + 1) (L + 1) (padOf ns)) rfl hIs haL F5 N6 ?_ ?_ ?_)
    · exact ⟨o1, o2, t1, t2, _, rfl, rfl, rfl, d1, d2⟩
    · clear F5 N6 hIs d1 d2
      intro i v m₁ news₁ h tk I own hvi hJ hnI hoff hown hIm F3 N3
      obtain ⟨o1, o2, t1, t2, ts, e1, e2, rfl, d1, d2⟩ := hJ
      have hIc : L + 1 + 1 < I := hnI _ (.head _)
      clear hnI
      rw [canon2 e1 e2] at F3
      have hne : ∀ q ∈ (L + 1, o2) :: own, q.1 ≠ L + 1 + 1 := by
        intro q hq
        rcases List.mem_cons.mp hq with h | h
        · rw [h]; exact Nat.ne_of_lt (Nat.lt_succ_self _)
        · rcases hown q h with e | e
          · rw [e]; exact Nat.ne_of_gt hIc
          · rw [e]; exact hne1
      obtain ⟨n, tn, hn, rfl⟩ := IntsAre.at' hiv hvi
      have hs := hornAt_succ hn
      replace N3 : News s.heap L h ((L + 1 + 1, o1) :: (L + 1, o2) :: own) := newsSub N3 (by
        intro q hq
        simp only [List.mem_cons, List.mem_append, List.not_mem_nil, or_false] at hq ⊢
        rcases hq with h | h | h
        · exact .inr (.inl h)
        · exact .inr (.inr h)
        · exact .inl h)
      generalize hornAt (padOf ns) i = hv at *
      k_steps
      rename Fr _ _ _ _ => F16
      rename News _ _ _ _ => N16
      refine ⟨_, _, _, [(L + 1 + 1, _), (L + 1, o2)], rfl, F16, newsSub N16 ?_, ?_, _, o2, _, t2, ts, rfl, rfl, rfl, by rw [hs]; assumption, d2⟩
      · intro q hq
        simp only [List.mem_cons, List.mem_append, List.not_mem_nil, or_false] at hq ⊢
        rcases hq with h | h | h
        · exact .inr (.inr h)
        · exact .inl h
        · exact .inr (.inl h)
      · intro q hq hqI
        have hqI := List.mem_singleton.mp hqI
        rcases List.mem_cons.mp hq with h | h
        · rw [h] at hqI; exact Nat.ne_of_lt hIc hqI
        · rw [List.mem_singleton.mp h] at hqI; exact Nat.ne_of_lt (Nat.lt_of_succ_lt hIc) hqI
    · intro h' tk' m' news' F' N' hJ
      rw [hv3] at hJ
      obtain ⟨o1, o2, t1, t2, ts, e1, e2, rfl, d1, d2⟩ := hJ
      rw [canon2 e1 e2] at F'
      clear F5 N6 hIs
      k_steps
      rename Fr _ _ _ _ => F7
      rename News _ _ _ _ => N7
      refine unhold (ListComp_W F7 (by with_unfolding_all rfl) (by decide) rfl (by decide) rfl ?_)
      k_steps
      refine unhold (range3_rows F7 N7 (by decide) (fun h8 tk8 t8 u8 v8 hr8 F8 N8 k8 => ?_))
      have hrg := six_range hsz hl.1 hl.2
      have hmn := six_many hsz
      rw [hmn] at hr8
      refine unhold (srcRange (n := 1 + ns.length) rfl F8 N8 hr8 hrg.1 hrg.2 (by simp only [sizeLine]; omega) fun h9 => ?_)
      clear F7 N7 F8 N8 k8
      refine compRest_of (n := 1 + ns.length) (fun i ys nw => StrsAre ys (((List.range (1 + ns.length)).map (sixAt (hornAt (padOf ns) 3))).take i) ∧ nw = [(L + 1 + 1, o1), (L + 1, o2)]) ?_ ?_ (1 + ns.length) 0 [] _ (by omega) ⟨.nil, rfl⟩
      · intro i ys nw hi hJ v I oI C oC D m2 h2 tk2 hP hC hx F5 N5 off ne
        obtain ⟨hD, rfl⟩ := hJ
        obtain ⟨t5, rfl⟩ := hP
        have hT : ((List.range (1 + ns.length)).map (sixAt (hornAt (padOf ns) 3))).take (i + 1) = ((List.range (1 + ns.length)).map (sixAt (hornAt (padOf ns) 3))).take i ++ [sixAt (hornAt (padOf ns) 3) i] := by
          rw [List.take_add_one, List.getElem?_map, List.getElem?_range hi]; rfl
        rw [show sixAt (hornAt (padOf ns) 3) i = Txt.item sixLetters (((hornAt (padOf ns) 3).fdiv (64 ^ (3 + (i : Int) * (-1)).toNat)).fmod 64) from rfl] at hT
        replace d1 : o1.data = .cell (some (.int (hornAt (padOf ns) 3) t1)) := d1
        have hk0 : 0 ≤ 3 + (i : Int) * (-1) := by omega
        have hk3 : 3 + (i : Int) * (-1) ≤ 3 := by omega
        generalize hnum : hornAt (padOf ns) 3 = num at *
        generalize hkv : 3 + (i : Int) * (-1) = kv at *
        have hm6 := mod64_in (num.fdiv (64 ^ kv.toNat))
        k_steps
        refine unhold (KXi.item (n := 64) sixLetters_len (by omega) hm6.2 (by decide) fun hl9 => ?_)
        rename Fr _ _ _ _ => F6
        rename News _ _ _ _ => N6
        refine LCg.CompEnd.intro F6 N6 _ (fun q hq => hq) off trivial ⟨?_, rfl⟩
        rw [hT]
        exact strsAre_push hD _ _
      · intro ys nw hJ D' h' tk' F' N' o1'
        obtain ⟨hD, rfl⟩ := hJ
        rw [List.take_of_length_le (by simp)] at hD
        k_steps
        refine unhold (join_listC (items := List.toArray ys) ⟨_, News.get N' (.head _), rfl, _, rfl⟩ hD (by decide) (six_small _ (by omega)) fun t9 k9 => ?_)
        have hjl := six_len (hornAt (padOf ns) 3) (1 + ns.length)
        have hS : sixStr ns = Txt.join (Str.ofString "") ((List.range (1 + ns.length)).map (sixAt (hornAt (padOf ns) 3))) ++ Txt.mul (Str.ofString "=") sz := by
          rw [show sz = ((3 - ns.length : Nat) : Int) by omega]; rfl
        generalize hjoin : Txt.join (Str.ofString "") ((List.range (1 + ns.length)).map (sixAt (hornAt (padOf ns) 3))) = jn at *
        rw [hS] at ret
        k_steps
        exact ret _ _ _ (Fr.keep (by assumption))
end
end Mine
end
section
open PySem PySem.W PyProof.Rows PySem.Calls
set_option maxRecDepth 100000
set_option maxHeartbeats 0
set_option rowWalk.seconds 0
set_option linter.unusedVariables false
namespace Mine
section
variable {w : World} {A : Around} {E : Value → Shared → Prop} {s : Shared} {p : Program} {loose : List Str} {mean : ExcName → Option Value} {mg mb : Str → Option Value} {Q : Value → Shared → Prop}
def b64Tab : List Int := [65, 66, 67, 68, 69, 70, 71, 72, 73, 74, 75, 76, 77, 78, 79, 80, 81, 82, 83, 84, 85, 86, 87, 88, 89, 90, 97, 98, 99, 100, 101, 102, 103, 104, 105, 106, 107, 108, 109, 110, 111, 112, 113, 114, 115, 116, 117, 118, 119, 120, 121, 122, 48, 49, 50, 51, 52, 53, 54, 55, 56, 57, 43, 47]
def b6 (lc sh : Int) : Int := b64Tab.getD (Builtin.bitAnd (lc.fdiv (2 ^ sh.toNat)) 63).toNat 0
def lcAt (ns : List Int) : Nat → Int
  | 0 => 0
  | i + 1 => Builtin.bitAnd (Builtin.bitOr (lcAt ns i * 256) (ns.getD i 0)) 65535
def lbAt : Nat → Int
  | 1 => 2
  | 2 => 4
  | _ => 0
def outAt (ns : List Int) : Nat → List Int
  | 0 => []
  | 1 => [b6 (lcAt ns 1) 2]
  | 2 => [b6 (lcAt ns 1) 2, b6 (lcAt ns 2) 4]
  | _ => [b6 (lcAt ns 1) 2, b6 (lcAt ns 2) 4, b6 (lcAt ns 3) 6, b6 (lcAt ns 3) 0]
def b2aL (ns : List Int) : List Int := outAt ns ns.length ++ (if ns.length = 1 then [b64Tab.getD (Builtin.bitAnd (lcAt ns 1) 3 * 16).toNat 0, 61, 61] else if ns.length = 2 then [b64Tab.getD (Builtin.bitAnd (lcAt ns 2) 15 * 4).toNat 0, 61] else [])
theorem lcAt_in (ns : List Int) : ∀ i, 0 ≤ lcAt ns i ∧ lcAt ns i ≤ 65535
  | 0 => ⟨Int.le_refl _, by show (0 : Int) ≤ 65535; decide⟩
  | i + 1 => bitAnd_range _ (by decide)
theorem and63 (x : Int) : 0 ≤ Builtin.bitAnd x 63 ∧ Builtin.bitAnd x 63 < 64 := by have := bitAnd_range x (y := 63) (by decide); omega
theorem b64Tab_in : ∀ j, j < 64 → 0 ≤ b64Tab.getD j 0 ∧ b64Tab.getD j 0 < 256 := by decide +kernel
theorem intsAre_push {vs : List Value} {ns : List Int} (h : IntsAre vs ns) (n : Int) (t : Tok) : IntsAre (vs ++ [.int n t]) (ns ++ [n]) := by
  induction h with
  | nil => exact .cons _ _ .nil
  | cons a t h ih => exact .cons _ _ ih
theorem b6_in (lc sh : Int) : 0 ≤ b6 lc sh ∧ b6 lc sh < 256 := b64Tab_in _ (by have := and63 (lc.fdiv (2 ^ sh.toNat)); omega)
theorem b2aL_in {ns : List Int} : ∀ n ∈ b2aL ns, 0 ≤ n ∧ n < 256 := by
  intro n h
  have h3 : 0 ≤ b64Tab.getD (Builtin.bitAnd (lcAt ns 1) 3 * 16).toNat 0 ∧ b64Tab.getD (Builtin.bitAnd (lcAt ns 1) 3 * 16).toNat 0 < 256 := b64Tab_in _ (by have := bitAnd_range (lcAt ns 1) (y := 3) (by decide); omega)
  have h15 : 0 ≤ b64Tab.getD (Builtin.bitAnd (lcAt ns 2) 15 * 4).toNat 0 ∧ b64Tab.getD (Builtin.bitAnd (lcAt ns 2) 15 * 4).toNat 0 < 256 := b64Tab_in _ (by have := bitAnd_range (lcAt ns 2) (y := 15) (by decide); omega)
  have ho : ∀ i, ∀ n ∈ outAt ns i, 0 ≤ n ∧ n < 256 := by
    intro i n h
    unfold outAt at h
    split at h
    all_goals (simp only [List.mem_cons, List.not_mem_nil, or_false] at h)
    · rw [h]; exact b6_in _ _
    · rcases h with h | h <;> (rw [h]; exact b6_in _ _)
    · rcases h with h | h | h | h <;> (rw [h]; exact b6_in _ _)
  unfold b2aL at h
  rcases List.mem_append.mp h with h | h
  · exact ho _ n h
  · split at h
    · simp only [List.mem_cons, List.not_mem_nil, or_false] at h
      rcases h with h | h | h
      · rw [h]; exact h3
      · rw [h]; decide
      · rw [h]; decide
    · split at h
      · simp only [List.mem_cons, List.not_mem_nil, or_false] at h
        rcases h with h | h
        · rw [h]; exact h15
        · rw [h]; decide
      · cases h
inductive BJ (ns : List Int) (i : Nat) (m : Str → Option Value) (news : List (Addr × Obj)) : Prop
  | intro : ∀ oa oits n t1 t2, (m (Str.ofString "out") = some (.ref oa)) → (m (Str.ofString "leftbits") = some (.int (lbAt i) t1)) → (m (Str.ofString "leftchar") = some (.int (lcAt ns i) t2)) → (m (Str.ofString "newline") = some (.bool false)) → (news = [(oa, W.listOf (List.toArray oits) n)]) → (IntsAre oits (outAt ns i)) → BJ ns i m news
theorem canon4 {m : Str → Option Value} {a b c d : Str} {x y z u : Value} (h1 : m a = some x) (h2 : m b = some y) (h3 : m c = some z) (h4 : m d = some u) : m = fun k => if k = a then some x else if k = b then some y else if k = c then some z else if k = d then some u else m k := by
  funext k
  by_cases e1 : k = a
  · rw [if_pos e1, e1, h1]
  · rw [if_neg e1]
    by_cases e2 : k = b
    · rw [if_pos e2, e2, h2]
    · rw [if_neg e2]
      by_cases e3 : k = c
      · rw [if_pos e3, e3, h3]
      · rw [if_neg e3]
        by_cases e4 : k = d
        · rw [if_pos e4, e4, h4]
        · rw [if_neg e4]
local macro_rules | `(tactic| walk_at "call type:type") => `(tactic| ((with_reducible show wpAny _ _ (call (Value.type "type") [Value.bytes _ _]) _ _ _); refine call_type_of (PySem.W.typeIs_bytes _ _ _) rfl ?_))
theorem c_buffer {b : Array UInt8} {t : Tok} (R : Ready (Mine.hd.heap_1 w.params) p loose mean mg mb A 3 s.heap)
    (ret : ∀ t h' tk, Kp s.heap h' → Q (.bytes b t) { s with heap := h', toks := tk }) :
    On PySem.Challenge.rw_qh0025_01 Mine.hd.heap_1 (wpAny (model prog w) A (call (.ref 129) [.bytes b t] ) Q E s) := by
  k_fill
  unfold On
  k_dflt (refine' enter (n := 2) R ?k6 ?k7 ?k9 ?kB ?_ ?c2 ?c3 ?c4 ?c5; (case k6 => k_is); (case k7 => k_is); (case k9 => exact BindsTo.of_eq rfl); (case c5 => decide); (case kB => exact locs rfl); (case c2 => exact rfl); (case c3 => exact rfl); (case c4 => exact rfl))
  intro dp fr gd un L h1 hdp hun R1 F0 N0 X0 T0
  (try dsimp only)
  k_steps
  exact ret _ _ _ (Fr.keep (by assumption))
theorem c_truth {b : Bool} (R : Ready (Mine.hd.heap_1 w.params) p loose mean mg mb A 3 s.heap)
    (ret : ∀ h' tk, Kp s.heap h' → Q (.bool b) { s with heap := h', toks := tk }) :
    On PySem.Challenge.rw_qh0025_01 Mine.hd.heap_1 (wpAny (model prog w) A (call (.ref 136) [.bool b] ) Q E s) := by
  k_fill
  unfold On
  k_dflt (refine' enter (n := 2) R ?k6 ?k7 ?k9 ?kB ?_ ?c2 ?c3 ?c4 ?c5; (case k6 => k_is); (case k7 => k_is); (case k9 => exact BindsTo.of_eq rfl); (case c5 => decide); (case kB => exact locs rfl); (case c2 => exact rfl); (case c3 => exact rfl); (case c4 => exact rfl))
  intro dp fr gd un L h1 hdp hun R1 F0 N0 X0 T0
  (try dsimp only)
  cases b <;> (
    k_steps
    exact ret _ _ (Fr.keep (by assumption)))
local macro_rules | `(tactic| walk_at "call ref") => `(tactic| (refine hold ?_))
local macro_rules | `(tactic| walk_at "exec For Name Name cons nil") => `(tactic| (refine hold ?_))
local macro_rules | `(tactic| walk_at "subscriptTail") => `(tactic| (refine hold ?_))
local macro_rules | `(tactic| walk_at "call type:bytes") => `(tactic| (refine hold ?_))
local macro_rules | `(tactic| walk_at "binaryOp LShift int int") => `(tactic| (with_reducible refine lshift_int_small ?kb1 ?kb2 ?kb3 ?_; (case kb1 => decide); (case kb2 => decide); (case kb3 => omega)))
local macro_rules | `(tactic| walk_at "binaryOp RShift int int") => `(tactic| (with_reducible refine rshift_int ?kb1 ?_; (case kb1 => omega)))
local macro_rules | `(tactic| walk_at "call builtin:list.append") => `(tactic| (refine hold ?_))
theorem c_b2a {b : Array UInt8} {t : Tok} {ns : List Int} (hb : KBw.bInts b = ns) (hr : ∀ n ∈ ns, 0 ≤ n ∧ n < 256) (hl : 1 ≤ ns.length ∧ ns.length ≤ 3) (R : Ready (Mine.hd.heap_1 w.params) p loose mean mg mb A 4 s.heap)
    (ret : ∀ t h' tk, Kp s.heap h' → Q (.bytes (byteArr (b2aL ns)) t) { s with heap := h', toks := tk }) :
    On PySem.Challenge.rw_qh0025_01 Mine.hd.heap_1 (wpAny (model prog w) A (call (.ref 159) [.bytes b t] [(Str.ofString "newline", .bool false)]) Q E s) := by
  k_fill
  unfold On
  k_dflt (refine' enter (n := 3) R ?k6 ?k7 ?k9 ?kB ?_ ?c2 ?c3 ?c4 ?c5; (case k6 => k_is); (case k7 => k_is); (case k9 => exact BindsTo.of_eq rfl); (case c5 => decide); (case kB => exact locs rfl); (case c2 => exact rfl); (case c3 => exact rfl); (case c4 => exact rfl))
  intro dp fr gd un L h1 hdp hun R1 F0 N0 X0 T0
  (try dsimp only)
  k_steps
  refine unhold (off (c_buffer ((R1 _ (Fr.keep (by k_asm))).less (by omega)) fun t4 h4 tk4 k9 => ?_))
  rename Fr _ _ _ _ => F9
  rename News _ _ _ _ => N9
  replace F9 := frKp F9 k9
  replace N9 := newsKp N9 k9
  clear k9
  k_steps
  refine unhold (off (c_truth ((R1 _ (Fr.keep (by k_asm))).less (by omega)) fun h4 tk4 k9 => ?_))
  rename Fr _ _ _ _ => F9
  rename News _ _ _ _ => N9
  replace F9 := frKp F9 k9
  replace N9 := newsKp N9 k9
  clear k9
  k_steps
  refine unhold (For_G ?_)
  k_steps
  rename Fr _ _ _ _ => F2
  rename News _ _ _ _ => N2
  refine unhold (iterB (J := BJ ns) rfl hb F2 N2 ?_ ?_ ?_)
  · exact ⟨_, [], _, _, _, rfl, rfl, rfl, rfl, rfl, .nil⟩
  · clear F2 N2
    intro i c tc m₁ news₁ h tk I own hci hJ hoff hown F3 N3
    obtain ⟨oa, oits, n, t1, t2, e1, e2, e3, e4, rfl, hD⟩ := hJ
    have hc := hr c (List.mem_of_getElem? hci)
    have hi3 : i < 3 := by have := (List.getElem?_eq_some_iff.mp hci).1; omega
    have hlc := lcAt_in ns i
    have hlc2 : lcAt ns (i + 1) = Builtin.bitAnd (Builtin.bitOr (lcAt ns i * 2 ^ (8 : Int).toNat) c) 65535 := by
      rw [lcAt, List.getD_eq_getElem?_getD, hci]; rfl
    have hdl : oits.length ≤ 4 := by
      rw [hD.length]
      have : i = 0 ∨ i = 1 ∨ i = 2 := by omega
      rcases this with rfl | rfl | rfl <;> simp [outAt]
    have hsz : (List.toArray oits).size ≤ sizeLine := by rw [List.size_toArray]; simp only [sizeLine]; omega
    have hne : ∀ q ∈ own, q.1 ≠ oa := fun q hq => by rw [hown q hq]; exact fun z => hoff _ (.head _) z.symm
    have fin : ∀ {h' : Heap} {tk' : Nat} {m' : Str → Option Value} {t1' t2' : Tok} {lb' lc' : Int} {oits' : List Value} {n' : Nat} {sA sB : Shared}, sB = { sA with heap := h', toks := tk' } → lc' = lcAt ns (i + 1) → lb' = lbAt (i + 1) → Fr s.heap L h' m' → News s.heap L h' ((oa, W.listOf (List.toArray oits') n') :: own) → IntsAre oits' (outAt ns (i + 1)) → m' (Str.ofString "out") = some (.ref oa) → m' (Str.ofString "leftbits") = some (.int lb' t1') → m' (Str.ofString "leftchar") = some (.int lc' t2') → m' (Str.ofString "newline") = some (.bool false) → GEnd s.heap L [I] own (BJ ns (i + 1)) sA sB := by
      intro h' tk' m' t1' t2' lb' lc' oits' n' sA sB hAB hlc' hlb' F N hI em1 em2 em3 em4
      refine ⟨h', tk', m', [(oa, W.listOf (List.toArray oits') n')], hAB, F, newsSub N ?_, fun q hq hqI => ?_, oa, oits', n', t1', t2', em1, by rw [em2, hlb'], by rw [em3, hlc'], em4, rfl, hI⟩
      · intro q hq
        simp only [List.mem_cons, List.mem_append, List.not_mem_nil, or_false] at hq ⊢
        exact hq.symm
      · rw [List.mem_singleton.mp hq] at hqI
        exact hoff _ (.head _) (List.mem_singleton.mp hqI)
    replace N3 : News s.heap L h ((oa, W.listOf (List.toArray oits) n) :: own) := newsSub N3 (by
      intro q hq
      simp only [List.mem_cons, List.mem_append, List.not_mem_nil, or_false] at hq ⊢
      exact hq.symm)
    have : i = 0 ∨ i = 1 ∨ i = 2 := by omega
    rw [canon4 e1 e2 e3 e4] at F3
    generalize hlcv : lcAt ns i = lcv at *
    rcases this with rfl | rfl | rfl
    · have hlb : lbAt 0 = 0 := rfl
      rw [hlb] at F3
      k_steps
      refine unhold (KBw.item_K (ks := b64Tab) rfl (by decide) (and63 _).1 (and63 _).2 fun t5 k5 _ _ => ?_)
      k_steps
      rename Fr _ _ _ _ => F8
      rename News _ _ _ _ => N8
      refine unhold (append_top F8 N8 hne (fun h10 F15 N15 => ?_) (by first | exact hsz | (rw [List.size_toArray]; simp only [sizeLine, List.length_append, List.length_cons, List.length_nil]; omega)))
      clear F8 N8
      rw [List.push_toArray] at N15
      k_steps
      rename Fr _ _ _ _ => F16
      rename News _ _ _ _ => N16
      refine fin rfl hlc2.symm rfl F16 N16 ?_ rfl rfl rfl rfl
      cases hD
      show IntsAre _ [b6 (lcAt ns 1) 2]
      rw [hlc2]
      exact .cons _ _ .nil
    · have hlb : lbAt 1 = 2 := rfl
      rw [hlb] at F3
      k_steps
      refine unhold (KBw.item_K (ks := b64Tab) rfl (by decide) (and63 _).1 (and63 _).2 fun t5 k5 _ _ => ?_)
      k_steps
      rename Fr _ _ _ _ => F8
      rename News _ _ _ _ => N8
      refine unhold (append_top F8 N8 hne (fun h10 F15 N15 => ?_) (by first | exact hsz | (rw [List.size_toArray]; simp only [sizeLine, List.length_append, List.length_cons, List.length_nil]; omega)))
      clear F8 N8
      rw [List.push_toArray] at N15
      k_steps
      rename Fr _ _ _ _ => F16
      rename News _ _ _ _ => N16
      refine fin rfl hlc2.symm rfl F16 N16 ?_ rfl rfl rfl rfl
      show IntsAre _ ([b6 (lcAt ns 1) 2] ++ [b6 (lcAt ns 2) 4])
      rw [hlc2]
      exact intsAre_push hD _ _
    · have hlb : lbAt 2 = 4 := rfl
      rw [hlb] at F3
      k_steps
      refine unhold (KBw.item_K (ks := b64Tab) rfl (by decide) (and63 _).1 (and63 _).2 fun t5 k5 _ _ => ?_)
      k_steps
      rename Fr _ _ _ _ => F8
      rename News _ _ _ _ => N8
      refine unhold (append_top F8 N8 hne (fun h10 F15 N15 => ?_) (by first | exact hsz | (rw [List.size_toArray]; simp only [sizeLine, List.length_append, List.length_cons, List.length_nil]; omega)))
      clear F8 N8
      rw [List.push_toArray] at N15
      k_steps
      refine unhold (KBw.item_K (ks := b64Tab) rfl (by decide) (and63 _).1 (and63 _).2 fun t5 k5 _ _ => ?_)
      k_steps
      rename Fr _ _ _ _ => F8
      rename News _ _ _ _ => N8
      refine unhold (append_top F8 N8 hne (fun h10 F15 N15 => ?_) (by first | exact hsz | (rw [List.size_toArray]; simp only [sizeLine, List.length_append, List.length_cons, List.length_nil]; omega)))
      clear F8 N8
      rw [List.push_toArray] at N15
      k_steps
      rename Fr _ _ _ _ => F16
      rename News _ _ _ _ => N16
      refine fin rfl hlc2.symm rfl F16 N16 ?_ rfl rfl rfl rfl
      show IntsAre _ (([b6 (lcAt ns 1) 2, b6 (lcAt ns 2) 4] ++ [b6 (lcAt ns 3) 6]) ++ [b6 (lcAt ns 3) 0])
      rw [hlc2]
      exact intsAre_push (intsAre_push hD _ _) _ _
  · intro h' tk' m' news' F' N' hJ
    obtain ⟨oa, oits, n, t1, t2, e1, e2, e3, e4, rfl, hD⟩ := hJ
    rw [canon4 e1 e2 e3 e4] at F'
    clear F2 N2
    have hlc := lcAt_in ns ns.length
    have hb3 := bitAnd_range (lcAt ns ns.length) (y := 3) (by decide)
    have hb15 := bitAnd_range (lcAt ns ns.length) (y := 15) (by decide)
    have hdl : oits.length ≤ 4 := by
      rw [hD.length]
      have : ns.length = 1 ∨ ns.length = 2 ∨ ns.length = 3 := by omega
      rcases this with h1 | h1 | h1 <;> rw [h1] <;> simp [outAt]
    have : ns.length = 1 ∨ ns.length = 2 ∨ ns.length = 3 := by omega
    have hB2 : b2aL ns = outAt ns ns.length ++ (if ns.length = 1 then [b64Tab.getD (Builtin.bitAnd (lcAt ns ns.length) 3 * 2 ^ Int.toNat 4).toNat 0, 61, 61] else if ns.length = 2 then [b64Tab.getD (Builtin.bitAnd (lcAt ns ns.length) 15 * 2 ^ Int.toNat 2).toNat 0, 61] else []) := by
      rcases this with h1 | h1 | h1 <;> rw [b2aL, h1] <;> rfl
    generalize hlcv : lcAt ns ns.length = lcv at *
    rcases this with h1 | h1 | h1 <;> rw [h1] at F' hB2
    · have hlb : lbAt 1 = 2 := rfl
      rw [hlb] at F'
      k_steps
      refine unhold (KBw.item_K (ks := b64Tab) rfl (by decide) ?_ ?_ fun t5 k5 _ _ => ?_)
      · rw [show (2 : Int) ^ Int.toNat 4 = 16 from rfl]; omega
      · rw [show (2 : Int) ^ Int.toNat 4 = 16 from rfl]; show _ < (64 : Int); omega
      k_steps
      rename Fr _ _ _ _ => F8
      rename News _ _ _ _ => N8
      refine unhold (append_top F8 N8 (fun q hq => (nomatch hq)) (fun h10 F15 N15 => ?_) (by rw [List.size_toArray]; simp only [sizeLine, List.length_append, List.length_cons, List.length_nil]; omega))
      clear F8 N8
      rw [List.push_toArray] at N15
      k_steps
      rename Fr _ _ _ _ => F8
      rename News _ _ _ _ => N8
      refine unhold (append_top F8 N8 (fun q hq => (nomatch hq)) (fun h10 F15 N15 => ?_) (by rw [List.size_toArray]; simp only [sizeLine, List.length_append, List.length_cons, List.length_nil]; omega))
      clear F8 N8
      rw [List.push_toArray] at N15
      k_steps
      rename Fr _ _ _ _ => F8
      rename News _ _ _ _ => N8
      refine unhold (append_top F8 N8 (fun q hq => (nomatch hq)) (fun h10 F15 N15 => ?_) (by rw [List.size_toArray]; simp only [sizeLine, List.length_append, List.length_cons, List.length_nil]; omega))
      clear F8 N8
      rw [List.push_toArray] at N15
      k_steps
      rename Fr _ _ _ _ => F8
      rename News _ _ _ _ => N8
      refine unhold (call_bytes_ints (ns := b2aL ns) ⟨_, (N8 _ (.head _)).1, rfl, _, rfl⟩ (by rw [hB2]; rw [h1] at hD; exact intsAre_push (intsAre_push (intsAre_push hD _ _) _ _) _ _) b2aL_in (by first | (simp only [sizeLine, List.length_append, List.length_cons, List.length_nil]; omega) | (simp only [sizeLine]; omega)) rfl fun h9 t9 k9 hk9 => ?_)
      k_steps
      exact ret _ _ _ fun b o e => hk9 _ _ (F8.keep _ _ e)
    · have hlb : lbAt 2 = 4 := rfl
      rw [hlb] at F'
      k_steps
      refine unhold (KBw.item_K (ks := b64Tab) rfl (by decide) ?_ ?_ fun t5 k5 _ _ => ?_)
      · rw [show (2 : Int) ^ Int.toNat 2 = 4 from rfl]; omega
      · rw [show (2 : Int) ^ Int.toNat 2 = 4 from rfl]; show _ < (64 : Int); omega
      k_steps
      rename Fr _ _ _ _ => F8
      rename News _ _ _ _ => N8
      refine unhold (append_top F8 N8 (fun q hq => (nomatch hq)) (fun h10 F15 N15 => ?_) (by rw [List.size_toArray]; simp only [sizeLine, List.length_append, List.length_cons, List.length_nil]; omega))
      clear F8 N8
      rw [List.push_toArray] at N15
      k_steps
      rename Fr _ _ _ _ => F8
      rename News _ _ _ _ => N8
      refine unhold (append_top F8 N8 (fun q hq => (nomatch hq)) (fun h10 F15 N15 => ?_) (by rw [List.size_toArray]; simp only [sizeLine, List.length_append, List.length_cons, List.length_nil]; omega))
      clear F8 N8
      rw [List.push_toArray] at N15
      k_steps
      rename Fr _ _ _ _ => F8
      rename News _ _ _ _ => N8
      refine unhold (call_bytes_ints (ns := b2aL ns) ⟨_, (N8 _ (.head _)).1, rfl, _, rfl⟩ (by rw [hB2]; rw [h1] at hD; exact intsAre_push (intsAre_push hD _ _) _ _) b2aL_in (by first | (simp only [sizeLine, List.length_append, List.length_cons, List.length_nil]; omega) | (simp only [sizeLine]; omega)) rfl fun h9 t9 k9 hk9 => ?_)
      k_steps
      exact ret _ _ _ fun b o e => hk9 _ _ (F8.keep _ _ e)
    · have hlb : lbAt 3 = 0 := rfl
      rw [hlb] at F'
      k_steps
      rename Fr _ _ _ _ => F8
      rename News _ _ _ _ => N8
      refine unhold (call_bytes_ints (ns := b2aL ns) ⟨_, (N8 _ (.head _)).1, rfl, _, rfl⟩ (by rw [hB2]; rw [h1] at hD; exact hD) b2aL_in (by first | (simp only [sizeLine, List.length_append, List.length_cons, List.length_nil]; omega) | (simp only [sizeLine]; omega)) rfl fun h9 t9 k9 hk9 => ?_)
      k_steps
      exact ret _ _ _ fun b o e => hk9 _ _ (F8.keep _ _ e)
end
end Mine
end
section
open PySem PySem.W PyProof.Rows PySem.Calls
set_option maxRecDepth 100000
namespace Mine
open PySem.Builtin PySem.Builtin._codecs
theorem run_ascii {id : String} {a b c d : UInt8} (ha : a.toNat < 128) (hb : b.toNat < 128) (hc : c.toNat < 128) (hd : d.toNat < 128) :
    runDecoder id asciiDecoder none true #[a, b, c, d] 0 [] = pure (#[a.toNat, b.toNat, c.toNat, d.toNat], 4) := by
  unfold runDecoder
  simp [List.range', asciiDecoder, Found.char, ha, hb, hc, hd, sizeLine]
theorem find_none {a b c d : Nat} (ha : a < 128) (hb : b < 128) (hc : c < 128) (hd : d < 128) : List.findIdx? (fun x => decide (128 ≤ x)) [a, b, c, d] = none := by
  simp [List.findIdx?_cons, Nat.not_le.mpr ha, Nat.not_le.mpr hb, Nat.not_le.mpr hc, Nat.not_le.mpr hd]
/-- the turn of the encoder's loop, read off the model -/
noncomputable def encBody (id : String) (self : Value) (s : Str) : { B : Nat → (Nat × Array UInt8 × Faults) → Sem (ForInStep (Nat × Array UInt8 × Faults)) // encodeNarrow id asciiCodec none self s = (forIn [:s.length] ((0, #[], {}) : Nat × Array UInt8 × Faults) B >>= fun r => pure r.snd.fst) } := ⟨_, rfl⟩
theorem enc_turn {id : String} {self : Value} {a b c d : Nat} (ha : a < 128) (hb : b < 128) (hc : c < 128) (hd : d < 128) (x : Nat) :
    (encBody id self ⟨#[a, b, c, d]⟩).1 x (0, #[], {}) = pure (.yield (4, #[a.toUInt8, b.toUInt8, c.toUInt8, d.toUInt8], {})) := by
  have hn : #[a, b, c, d].findIdx? asciiCodec.bad = none := (List.findIdx?_toArray ..).trans (find_none ha hb hc hd)
  refine (if_pos (show (!asciiCodec.bad a) = true by show (!decide (128 ≤ a)) = true; rw [decide_eq_false (Nat.not_le.mpr ha)]; rfl)).trans ?_
  show (pure (ForInStep.yield (0 + (Array.findIdx? asciiCodec.bad #[a, b, c, d]).getD 4, Array.foldl _ #[] (Array.extract #[a, b, c, d] 0 ((Array.findIdx? asciiCodec.bad #[a, b, c, d]).getD 4)), _)) : Sem (ForInStep (Nat × Array UInt8 × Faults))) = _
  rw [hn]
  rfl
theorem enc_ascii {id : String} {self : Value} {a b c d : Nat} (ha : a < 128) (hb : b < 128) (hc : c < 128) (hd : d < 128) :
    encodeNarrow id asciiCodec none self ⟨#[a, b, c, d]⟩ = pure #[a.toUInt8, b.toUInt8, c.toUInt8, d.toUInt8] := by
  rw [(encBody id self ⟨#[a, b, c, d]⟩).2]
  have e2 : ∀ x, (encBody id self ⟨#[a, b, c, d]⟩).1 x (4, #[a.toUInt8, b.toUInt8, c.toUInt8, d.toUInt8], {}) = pure (.done (4, #[a.toUInt8, b.toUInt8, c.toUInt8, d.toUInt8], {})) := fun x => rfl
  have e1 := enc_turn (id := id) (self := self) ha hb hc hd
  generalize (encBody id self ⟨#[a, b, c, d]⟩).1 = B at *
  have hl : (⟨#[a, b, c, d]⟩ : Str).length = 4 := rfl
  rw [hl]
  simp [List.range', e1, e2]
section
variable {b : Array UInt8} {t : Tok} {x : Str} {n : Nat}
theorem road_ascii {id : String} : decodeRoad id b (Str.ofString "ascii") none [] = (runDecoder id asciiDecoder none true b 0 [] >>= fun r => mkStr ⟨r.1⟩) := by kernel_rfl
theorem meets_text_ascii {t1 t2 : Tok} {d : Str} (hd : ∀ id, runDecoder id asciiDecoder none true b 0 [] = pure (x.cps, n)) :
    Meets («_codecs.decode.text» ⟨[.bytes b t, .str (Str.ofString "ascii") t1, .none, .str d t2], []⟩) (fun _ R s => x.length ≤ sizeLine ∧ R (.ok (.ret (.str x s.toks))) { s with toks := s.toks + 1 }) := by
  refine .of_wp fun prog w A R s hS => ?_
  obtain ⟨hsz, h⟩ := hS
  show wpAny _ _ (Bytes.bytesLike _ (.bytes b t) >>= fun r => _) _ _ s
  refine wpAny_bind (wpAny_of_eq KBd.like_eq ?_)
  refine wpAny_bind (wpAny_of_eq KBd.held_eq ?_)
  show wpAny _ _ (decodeRoad _ b (Str.ofString "ascii") none [] >>= fun v => _) _ _ s
  rw [road_ascii, hd]
  refine wpAny_bind (wpAny_bind (wpAny_pure ?_))
  exact wpAny_mkStr (wpAny_pure ⟨_, rfl, h⟩) hsz
theorem decode_kw {u : Tok} {c : UInt8} {cs : List UInt8} : «bytes.decode» ⟨[.bytes (c :: cs).toArray t], [(Str.ofString "encoding", .str (Str.ofString "ascii") u)]⟩ = (mkStr (Str.ofString "utf-8") >>= fun _ => mkStr (Str.ofString "ascii") >>= fun e => mkStr (Str.ofString "bytes.decode") >>= fun d =>
    call (.builtin "_codecs.decode.text") [.bytes (c :: cs).toArray t, e, .none, d] >>= fun v => ret v) := by kernel_rfl
theorem args_decode_kw (a e : Value) : argsOk "bytes.decode" ⟨[a], [(Str.ofString "encoding", e)]⟩ := by
  unfold argsOk; rw [signature?_of (id := "bytes.decode") (n := ['e', 'd', 'o', 'c', 'e', 'd']) (o := ['s', 'e', 't', 'y', 'b']) (by kernel_rfl) PySem.W.FB.owner_bytes]; kernel_rfl
theorem args_object_init_3 (obj a b : Value) : argsOk "object.__init__" ⟨[obj, a, b], []⟩ := by
  unfold argsOk; kernel_rfl
theorem typeCall_str_2 (a b : Value) : checkTypeCall "str" ⟨[a, b], []⟩ = pure () := by kernel_rfl
theorem newCall_str_2 (a b : Value) : checkBuiltinCall "str.__new__" ⟨[.type "str", a, b], []⟩ = pure () := by kernel_rfl
end
section
variable {prog : Program} {w : World} {A : Around} {E : Value → Shared → Prop} {s : Shared} {b : Array UInt8} {t : Tok} {x : Str} {n : Nat}
theorem decode_ascii {u : Tok} {c : UInt8} {cs : List UInt8} {Q : Value → Shared → Prop} (hd : ∀ id, runDecoder id asciiDecoder none true (c :: cs).toArray 0 [] = pure (x.cps, n)) (hsz : x.length ≤ sizeLine) (h : ∀ t' k, Q (.str x t') { s with toks := k }) :
    wpAny (model prog w) A (call (.builtin "bytes.decode") [.bytes (c :: cs).toArray t] [(Str.ofString "encoding", .str (Str.ofString "ascii") u)]) Q E s := by
  refine wpAny_call_entry_kw PySem.W.FB.slot_bytes_decode (PySem.W.typeIs_bytes _ _ _) PySem.W.FB.entry_bytes_decode ?_ (args_decode_kw _ _)
  rw [decode_kw]
  refine wpAny_bind (wpAny_mkStr ?_ (by decide))
  refine wpAny_bind (wpAny_mkStr ?_ (by decide))
  refine wpAny_bind (wpAny_mkStr ?_ (by decide))
  exact wpAny_bind (call_function_meets KBd.kind_text KBd.plain_text KBd.entry_text (KBd.args_text _ _ _ _) (meets_text_ascii hd) ⟨hsz, wpAny_pure ⟨_, rfl, h _ _⟩⟩)
theorem meets_str_ascii {u : Tok} {c : UInt8} {cs : List UInt8} (hd : ∀ id, runDecoder id asciiDecoder none true (c :: cs).toArray 0 [] = pure (x.cps, n)) :
    Meets («str.__new__» ⟨[.type "str", .bytes (c :: cs).toArray t, .str (Str.ofString "ascii") u], []⟩) (fun _ R s => x.length ≤ sizeLine ∧ ∀ t' k, R (.ok (.ret (.str x t'))) { s with toks := k }) := by
  refine .of_wp fun prog w A R s hS => ?_
  obtain ⟨hsz, h⟩ := hS
  unfold Builtin.«str.__new__»
  refine wpAny_bind (wpAny_of_eq (a := true) rfl ?_)
  refine bm_if_false rfl ?_
  refine wpAny_bind (wpAny_of_eq isSubtype_str_str ?_)
  refine bm_if_false rfl ?_
  refine bm_if_false rfl ?_
  refine wpAny_bind (wpAny_of_eq (a := [some (.bytes (c :: cs).toArray t), some (.str (Str.ofString "ascii") u), none]) (by kernel_rfl) ?_)
  refine wpAny_bind (wpAny_of_eq (a := some (Str.ofString "ascii")) (by kernel_rfl) ?_)
  refine wpAny_bind (wpAny_of_eq (a := none) (by kernel_rfl) ?_)
  refine bm_if_false (by rfl) ?_
  refine wpAny_bind ?_
  show wpAny _ _ ((mkStr (Str.ofString "ascii") >>= fun e => pure [(Str.ofString "encoding", e)]) >>= fun l => pure [] >>= fun r => isInstance (.bytes (c :: cs).toArray t) (.type "bytes") >>= fun i => if i = true then (rule "str.__new__.decode-bytes" >>= fun _ => call (.builtin "bytes.decode") [.bytes (c :: cs).toArray t] (l ++ r)) else _) _ _ _
  refine wpAny_bind (wpAny_bind (wpAny_mkStr (wpAny_pure ?_) (by decide)))
  refine wpAny_bind (wpAny_pure ?_)
  refine wpAny_bind (wpAny_of_eq KBy.isInstance_eq ?_)
  refine bm_if_true rfl ?_
  refine wpAny_bind (wpAny_rule ?_)
  refine decode_ascii hd hsz fun t' k => ?_
  refine bm_if_true rfl ?_
  exact wpAny_pure ⟨_, rfl, h t' k⟩
theorem call_str_ascii {u : Tok} {c : UInt8} {cs : List UInt8} {Q : Value → Shared → Prop} (hd : ∀ id, runDecoder id asciiDecoder none true (c :: cs).toArray 0 [] = pure (x.cps, n)) (hsz : x.length ≤ sizeLine) (h : ∀ t' k, Q (.str x t') { s with toks := k }) :
    wpAny (model prog w) A (call (.type "str") [.bytes (c :: cs).toArray t, .str (Str.ofString "ascii") u]) Q E s :=
  callType_new F.called_str (by decide) (typeCall_str_2 _ _) (newCall_str_2 _ _) (fun obj => args_object_init_3 obj _ _) F.entry_str_new (meets_str_ascii hd) ⟨hsz, fun t' k => ⟨typeIs_str _ _ _, h t' k⟩⟩
theorem encode_eq {y : Str} {u : Tok} : «str.encode» ⟨[.str y t, .str (Str.ofString "ascii") u], []⟩ = ((encodeNarrow "str.encode" asciiCodec none (.str y t) y >>= fun b => mkBytes b) >>= fun v => ret v) := by kernel_rfl
theorem call_encode_ascii {y : Str} {u : Tok} {b : Array UInt8} {Q : Value → Shared → Prop} (hd : encodeNarrow "str.encode" asciiCodec none (.str y t) y = pure b) (hsz : b.size ≤ sizeLine) (h : ∀ t' k, Q (.bytes b t') { s with toks := k }) :
    wpAny (model prog w) A (call (.builtin "str.encode") [.str y t, .str (Str.ofString "ascii") u]) Q E s := by
  refine wpAny_call_entry F.slot_str_encode (typeIs_str _ _ _) F.entry_str_encode ?_ (F.args_str_encode_2 _ _)
  rw [encode_eq, hd]
  refine wpAny_bind (wpAny_bind (wpAny_pure ?_))
  refine wpAny_mkBytes ?_ hsz
  exact wpAny_pure ⟨_, rfl, h _ _⟩
end
end Mine
end
section
open PySem PySem.W PyProof.Rows PySem.Calls
set_option maxRecDepth 100000
set_option maxHeartbeats 0
set_option rowWalk.seconds 0
set_option linter.unusedVariables false
namespace Mine
section
variable {w : World} {A : Around} {E : Value → Shared → Prop} {s : Shared} {p : Program} {loose : List Str} {mean : ExcName → Option Value} {mg mb : Str → Option Value} {Q : Value → Shared → Prop}
local macro_rules | `(tactic| walk_at "call builtin:str.encode") => `(tactic| (refine hold ?_))
theorem noRefS {s : Shared} {x : Str} {t : Tok} : ∀ a, Value.str x t = .ref a → ∃ o, s.heap.get? a = some o ∧ o.dict = none := fun _ e => nomatch e
theorem method_encode {M : Model} {A : Around} {E : Value → Shared → Prop} {s : Shared} {x : Str} {t : Tok} {pl : Sem Bool} {Q : Value × List Value → Shared → Prop} (h : Q (.builtin "str.encode", [.str x t]) s) : wpAny M A (getMethod (.str x t) "encode" pl) Q E s :=
  getMethod_builtin (typeIs_str _ _ _) F.plainAttrs_str F.slot_str_encode F.type_str_encode noRefS h
local macro_rules | `(tactic| walk_at "getMethod str") => `(tactic| (refine method_encode ?_))
open PySem.Builtin._codecs in
theorem c_bfdd {x : Str} {t : Tok} {b : Array UInt8} (hE : encodeNarrow "str.encode" asciiCodec none (.str x t) x = pure b) (hb : b.size ≤ sizeLine) (R : Ready (Mine.hd.heap_1 w.params) p loose mean mg mb A 4 s.heap)
    (ret : ∀ t h' tk, Kp s.heap h' → Q (.bytes b t) { s with heap := h', toks := tk }) :
    On PySem.Challenge.rw_qh0025_01 Mine.hd.heap_1 (wpAny (model prog w) A (call (.ref 102) [.str x t] ) Q E s) := by
  k_fill
  unfold On
  k_dflt (refine' enter (n := 3) R ?k6 ?k7 ?k9 ?kB ?_ ?c2 ?c3 ?c4 ?c5; (case k6 => k_is); (case k7 => k_is); (case k9 => exact BindsTo.of_eq rfl); (case c5 => decide); (case kB => exact locs rfl); (case c2 => exact rfl); (case c3 => exact rfl); (case c4 => exact rfl))
  intro dp fr gd un L h1 hdp hun R1 F0 N0 X0 T0
  (try dsimp only)
  k_steps
  refine unhold (call_encode_ascii hE hb fun t9 k9 => ?_)
  k_steps
  trace_state
  exact ret _ _ _ (Fr.keep (by assumption))
local macro_rules | `(tactic| walk_at "call type:type") => `(tactic| ((with_reducible show wpAny _ _ (call (Value.type "type") [Value.bytes _ _]) _ _ _); refine call_type_of (PySem.W.typeIs_bytes _ _ _) rfl ?_))
theorem c_ascii_buffer {b : Array UInt8} {t : Tok} (R : Ready (Mine.hd.heap_1 w.params) p loose mean mg mb A 3 s.heap)
    (ret : ∀ t h' tk, Kp s.heap h' → Q (.bytes b t) { s with heap := h', toks := tk }) :
    On PySem.Challenge.rw_qh0025_01 Mine.hd.heap_1 (wpAny (model prog w) A (call (.ref 122) [.bytes b t] ) Q E s) := by
  k_fill
  unfold On
  k_dflt (refine' enter (n := 2) R ?k6 ?k7 ?k9 ?kB ?_ ?c2 ?c3 ?c4 ?c5; (case k6 => k_is); (case k7 => k_is); (case k9 => exact BindsTo.of_eq rfl); (case c5 => decide); (case kB => exact locs rfl); (case c2 => exact rfl); (case c3 => exact rfl); (case c4 => exact rfl))
  intro dp fr gd un L h1 hdp hun R1 F0 N0 X0 T0
  (try dsimp only)
  k_steps
  exact ret _ _ _ (Fr.keep (by assumption))
def b64Val (c : Int) : Int := if 65 ≤ c ∧ c ≤ 90 then c - 65 else if 97 ≤ c ∧ c ≤ 122 then c - 71 else if 48 ≤ c ∧ c ≤ 57 then c + 4 else if c = 43 then 62 else if c = 47 then 63 else 64
theorem c_b64_value {c : Int} {t : Tok} (R : Ready (Mine.hd.heap_1 w.params) p loose mean mg mb A 3 s.heap)
    (ret : ∀ t h' tk, Kp s.heap h' → Q (.int (b64Val c) t) { s with heap := h', toks := tk }) :
    On PySem.Challenge.rw_qh0025_01 Mine.hd.heap_1 (wpAny (model prog w) A (call (.ref 143) [.int c t] ) Q E s) := by
  k_fill
  unfold On
  k_dflt (refine' enter (n := 2) R ?k6 ?k7 ?k9 ?kB ?_ ?c2 ?c3 ?c4 ?c5; (case k6 => k_is); (case k7 => k_is); (case k9 => exact BindsTo.of_eq rfl); (case c5 => decide); (case kB => exact locs rfl); (case c2 => exact rfl); (case c3 => exact rfl); (case c4 => exact rfl))
  intro dp fr gd un L h1 hdp hun R1 F0 N0 X0 T0
  (try dsimp only)
  have fin : ∀ v t h' tk, v = b64Val c → Kp s.heap h' → Q (.int v t) { s with heap := h', toks := tk } := fun v t h' tk e k => e ▸ ret t h' tk k
  k_steps
  all_goals exact fin _ _ _ _ (by unfold b64Val; (repeat' split) <;> omega) (Fr.keep (by assumption))
end
end Mine
end
section
open PySem PySem.W PyProof.Rows PySem.Calls
set_option maxRecDepth 100000
set_option maxHeartbeats 0
set_option rowWalk.seconds 0
set_option linter.unusedVariables false
namespace Mine
section
variable {w : World} {A : Around} {E : Value → Shared → Prop} {s : Shared} {p : Program} {loose : List Str} {mean : ExcName → Option Value} {mg mb : Str → Option Value} {Q : Value → Shared → Prop}
theorem canon6 {m : Str → Option Value} {a b c d e f : Str} {x0 x1 x2 x3 x4 x5 : Value} (h0 : m a = some x0) (h1 : m b = some x1) (h2 : m c = some x2) (h3 : m d = some x3) (h4 : m e = some x4) (h5 : m f = some x5) : m = fun k => if k = a then some x0 else if k = b then some x1 else if k = c then some x2 else if k = d then some x3 else if k = e then some x4 else if k = f then some x5 else m k := by
  funext k
  by_cases e0 : k = a
  · rw [if_pos e0, e0, h0]
  · rw [if_neg e0]
    by_cases e1 : k = b
    · rw [if_pos e1, e1, h1]
    · rw [if_neg e1]
      by_cases e2 : k = c
      · rw [if_pos e2, e2, h2]
      · rw [if_neg e2]
        by_cases e3 : k = d
        · rw [if_pos e3, e3, h3]
        · rw [if_neg e3]
          by_cases e4 : k = e
          · rw [if_pos e4, e4, h4]
          · rw [if_neg e4]
            by_cases e5 : k = f
            · rw [if_pos e5, e5, h5]
            · rw [if_neg e5]
abbrev A2 := List Int × Int × Int × Int
def a2bStep (st : A2) (c : Int) : A2 :=
  if c = 61 then (st.1, st.2.1, st.2.2.1, st.2.2.2 + 1)
  else if st.2.1 = 0 then (st.1, 1, b64Val c, 0)
  else if st.2.1 = 1 then (st.1 ++ [Builtin.bitOr (st.2.2.1 * 2 ^ Int.toNat 2) ((b64Val c).fdiv (2 ^ Int.toNat 4))], 2, Builtin.bitAnd (b64Val c) 15, 0)
  else if st.2.1 = 2 then (st.1 ++ [Builtin.bitOr (st.2.2.1 * 2 ^ Int.toNat 4) ((b64Val c).fdiv (2 ^ Int.toNat 2))], 3, Builtin.bitAnd (b64Val c) 3, 0)
  else (st.1 ++ [Builtin.bitOr (st.2.2.1 * 2 ^ Int.toNat 6) (b64Val c)], 0, 0, 0)
def a2bAt (ns : List Int) (i : Nat) : A2 := (ns.take i).foldl a2bStep ([], 0, 0, 0)
structure A2Ok (st : A2) : Prop where
  q0 : 0 ≤ st.2.1
  q3 : st.2.1 ≤ 3
  l0 : 0 ≤ st.2.2.1
  l6 : st.2.2.1 < 64
theorem a2bStep_ok {st : A2} {c : Int} (h : A2Ok st) (hc : c = 61 ∨ (0 ≤ b64Val c ∧ b64Val c < 64)) : A2Ok (a2bStep st c) := by
  unfold a2bStep
  split
  · exact ⟨h.q0, h.q3, h.l0, h.l6⟩
  · have hv := hc.resolve_left (by assumption)
    have b15 := bitAnd_range (b64Val c) (y := 15) (by decide)
    have b3 := bitAnd_range (b64Val c) (y := 3) (by decide)
    split
    · exact ⟨Int.le_of_lt Int.zero_lt_one, by show (1 : Int) ≤ 3; decide, hv.1, hv.2⟩
    · split
      · exact ⟨by show (0 : Int) ≤ 2; decide, by show (2 : Int) ≤ 3; decide, b15.1, by show Builtin.bitAnd (b64Val c) 15 < 64; omega⟩
      · split
        · exact ⟨by show (0 : Int) ≤ 3; decide, by show (3 : Int) ≤ 3; decide, b3.1, by show Builtin.bitAnd (b64Val c) 3 < 64; omega⟩
        · exact ⟨Int.le_refl _, by show (0 : Int) ≤ 3; decide, Int.le_refl _, by show (0 : Int) < 64; decide⟩
theorem a2bStep_len (st : A2) (c : Int) : (a2bStep st c).1.length ≤ st.1.length + 1 := by
  unfold a2bStep
  (repeat' split) <;> simp
theorem a2bAt_succ {ns : List Int} {i : Nat} {c : Int} (h : ns[i]? = some c) : a2bAt ns (i + 1) = a2bStep (a2bAt ns i) c := by
  rw [a2bAt, List.take_add_one, h, Option.toList_some, List.foldl_append]; rfl
theorem a2bAt_ok {ns : List Int} (hc : ∀ c ∈ ns, c = 61 ∨ (0 ≤ b64Val c ∧ b64Val c < 64)) : ∀ i, A2Ok (a2bAt ns i) ∧ (a2bAt ns i).1.length ≤ i
  | 0 => ⟨⟨Int.le_refl _, by show (0 : Int) ≤ 3; decide, Int.le_refl _, by show (0 : Int) < 64; decide⟩, Nat.le_refl _⟩
  | i + 1 => by
    obtain ⟨h1, h2⟩ := a2bAt_ok hc i
    cases h : ns[i]? with
    | none =>
      have e : a2bAt ns (i + 1) = a2bAt ns i := by rw [a2bAt, List.take_add_one, h]; simp [a2bAt]
      rw [e]; exact ⟨h1, by omega⟩
    | some c =>
      rw [a2bAt_succ h]
      exact ⟨a2bStep_ok h1 (hc c (List.mem_of_getElem? h)), by have := a2bStep_len (a2bAt ns i) c; omega⟩
inductive DJ (ns : List Int) (i : Nat) (m : Str → Option Value) (news : List (Addr × Obj)) : Prop
  | intro : ∀ oa oits n t1 t2 t3 t4 iv, (m (Str.ofString "out") = some (.ref oa)) → (m (Str.ofString "quad_pos") = some (.int (a2bAt ns i).2.1 t1)) → (m (Str.ofString "leftchar") = some (.int (a2bAt ns i).2.2.1 t2)) → (m (Str.ofString "pads") = some (.int (a2bAt ns i).2.2.2 t3)) → (m (Str.ofString "i") = some (.int iv t4)) → (m (Str.ofString "strict_mode") = some (.bool false)) → (news = [(oa, W.listOf (List.toArray oits) n)]) → (IntsAre oits (a2bAt ns i).1) → DJ ns i m news
local macro_rules | `(tactic| walk_at "ite") => `(tactic| (with_reducible refine skip_if (by rw [beq_iff_eq]; assumption) ?_))
local macro_rules | `(tactic| walk_at "call ref") => `(tactic| (refine hold ?_))
local macro_rules | `(tactic| walk_at "exec For Name Name cons nil") => `(tactic| (refine hold ?_))
local macro_rules | `(tactic| walk_at "call type:bytes") => `(tactic| (refine hold ?_))
local macro_rules | `(tactic| walk_at "call builtin:list.append") => `(tactic| (refine hold ?_))
local macro_rules | `(tactic| walk_at "eval Call Name") => `(tactic| ((with_reducible show wpAny _ _ (eval (Expr.Call (Expr.Name _ _) _ [] _) _) _ _ _); refine Call_ ?_))
local macro_rules | `(tactic| walk_at "binaryOp LShift int int") => `(tactic| (with_reducible refine lshift_int_small ?kb1 ?kb2 ?kb3 ?_; (case kb1 => decide); (case kb2 => decide); (case kb3 => omega)))
local macro_rules | `(tactic| walk_at "binaryOp RShift int int") => `(tactic| (with_reducible refine rshift_int ?kb1 ?_; (case kb1 => decide)))
theorem c_a2b {b : Array UInt8} {t : Tok} {ns os : List Int} {q l pd : Int} (hb : KBw.bInts b = ns) (hc : ∀ c ∈ ns, c = 61 ∨ (0 ≤ b64Val c ∧ b64Val c < 64)) (hl : ns.length ≤ 4) (he : a2bAt ns ns.length = (os, q, l, pd)) (hq1 : q ≠ 1) (hq4 : q = 0 ∨ 4 ≤ q + pd) (hos : ∀ n ∈ os, 0 ≤ n ∧ n < 256) (R : Ready (Mine.hd.heap_1 w.params) p loose mean mg mb A 4 s.heap)
    (ret : ∀ t h' tk, Kp s.heap h' → Q (.bytes (byteArr os) t) { s with heap := h', toks := tk }) :
    On PySem.Challenge.rw_qh0025_01 Mine.hd.heap_1 (wpAny (model prog w) A (call (.ref 151) [.bytes b t] [(Str.ofString "strict_mode", .bool false)]) Q E s) := by
  k_fill
  unfold On
  k_dflt (refine' enter (n := 3) R ?k6 ?k7 ?k9 ?kB ?_ ?c2 ?c3 ?c4 ?c5; (case k6 => k_is); (case k7 => k_is); (case k9 => exact BindsTo.of_eq rfl); (case c5 => decide); (case kB => exact locs rfl); (case c2 => exact rfl); (case c3 => exact rfl); (case c4 => exact rfl))
  intro dp fr gd un L h1 hdp hun R1 F0 N0 X0 T0
  (try dsimp only)
  k_steps
  refine unhold (off (c_ascii_buffer  ((R1 _ (Fr.keep (by k_asm))).less (by omega)) fun t4 h4 tk4 k9 => ?_))
  rename Fr _ _ _ _ => F9
  rename News _ _ _ _ => N9
  replace F9 := frKp F9 k9
  replace N9 := newsKp N9 k9
  clear k9
  k_steps
  refine unhold (off (c_truth  ((R1 _ (Fr.keep (by k_asm))).less (by omega)) fun h4 tk4 k9 => ?_))
  rename Fr _ _ _ _ => F9
  rename News _ _ _ _ => N9
  replace F9 := frKp F9 k9
  replace N9 := newsKp N9 k9
  clear k9
  k_steps
  refine unhold (For_G ?_)
  k_steps
  rename Fr _ _ _ _ => F2
  rename News _ _ _ _ => N2
  refine unhold (iterB (J := DJ ns) rfl hb F2 N2 ?_ ?_ ?_)
  · exact ⟨_, [], _, _, _, _, _, _, rfl, rfl, rfl, rfl, rfl, rfl, rfl, .nil⟩
  · clear F2 N2
    intro i c tc m₁ news₁ h tk I own hci hJ hoff hown F3 N3
    obtain ⟨oa, oits, n, t1, t2, t3, t4, iv, e1, e2, e3, e4, e5, e6, rfl, hD⟩ := hJ
    have hcc := hc c (List.mem_of_getElem? hci)
    have hi4 : i < ns.length := (List.getElem?_eq_some_iff.mp hci).1
    obtain ⟨hok, hln⟩ := a2bAt_ok hc i
    have hs := a2bAt_succ hci
    rw [canon6 e1 e2 e3 e4 e5 e6] at F3
    have hdl := hD.length
    have hsz : (List.toArray oits).size ≤ sizeLine := by rw [List.size_toArray]; simp only [sizeLine]; omega
    have hne : ∀ q ∈ own, q.1 ≠ oa := fun q hq => by rw [hown q hq]; exact fun z => hoff _ (.head _) z.symm
    replace N3 : News s.heap L h ((oa, W.listOf (List.toArray oits) n) :: own) := newsSub N3 (by
      intro q hq
      simp only [List.mem_cons, List.mem_append, List.not_mem_nil, or_false] at hq ⊢
      exact hq.symm)
    generalize a2bAt ns i = st at *
    obtain ⟨o, qp, lc, pads⟩ := st
    obtain ⟨q0, q3, l0, l6⟩ := hok
    dsimp only at q0 q3 l0 l6 hln hdl hD F3
    have fin : ∀ {h' : Heap} {tk' : Nat} {m' : Str → Option Value} {t1' t2' t3' t4' : Tok} {o' : List Int} {qp' lc' pads' iv' : Int} {oits' : List Value} {n' : Nat} {sA sB : Shared}, (o', qp', lc', pads') = a2bStep (o, qp, lc, pads) c → IntsAre oits' o' → sB = { sA with heap := h', toks := tk' } → Fr s.heap L h' m' → News s.heap L h' ((oa, W.listOf (List.toArray oits') n') :: own) → m' (Str.ofString "out") = some (.ref oa) → m' (Str.ofString "quad_pos") = some (.int qp' t1') → m' (Str.ofString "leftchar") = some (.int lc' t2') → m' (Str.ofString "pads") = some (.int pads' t3') → m' (Str.ofString "i") = some (.int iv' t4') → m' (Str.ofString "strict_mode") = some (.bool false) → GEnd s.heap L [I] own (DJ ns (i + 1)) sA sB := by
      intro h' tk' m' t1' t2' t3' t4' o' qp' lc' pads' iv' oits' n' sA sB hst hI hAB F N em1 em2 em3 em4 em5 em6
      have hs' := hs.trans hst.symm
      refine ⟨h', tk', m', [(oa, W.listOf (List.toArray oits') n')], hAB, F, newsSub N ?_, fun q hq hqI => ?_, oa, oits', n', t1', t2', t3', t4', iv', em1, by rw [hs']; exact em2, by rw [hs']; exact em3, by rw [hs']; exact em4, em5, em6, rfl, by rw [hs']; exact hI⟩
      · intro q hq
        simp only [List.mem_cons, List.mem_append, List.not_mem_nil, or_false] at hq ⊢
        exact hq.symm
      · rw [List.mem_singleton.mp hq] at hqI
        exact hoff _ (.head _) (List.mem_singleton.mp hqI)
    k_steps
    all_goals first
      | (have h61 := ‹c = 61›
         rename Fr _ _ _ _ => F16
         rename News _ _ _ _ => N16
         exact fin (by rw [a2bStep, if_pos h61]) hD rfl F16 N16 rfl rfl rfl rfl rfl rfl)
      | skip
    have h61 := ‹c ≠ 61›
    have hv := hcc.resolve_left h61
    refine unhold (off (c_b64_value ((R1 _ (Fr.keep (by k_asm))).less (by omega)) fun t4 h4 tk4 k9 => ?_))
    rename Fr _ _ _ _ => F9
    rename News _ _ _ _ => N9
    replace F9 := frKp F9 k9
    replace N9 := newsKp N9 k9
    clear k9
    generalize hvv : b64Val c = v at *
    k_steps
    all_goals first
      | (rename Fr _ _ _ _ => F16
         rename News _ _ _ _ => N16
         exact fin (by unfold a2bStep; rw [hvv, if_neg (by assumption)]; dsimp only; first | rw [if_pos (by assumption)] | rw [if_neg (by assumption), if_pos (by assumption)] | rw [if_neg (by assumption), if_neg (by assumption), if_pos (by assumption)] | rw [if_neg (by assumption), if_neg (by assumption), if_neg (by assumption)]) hD rfl F16 N16 rfl rfl rfl rfl rfl rfl)
      | skip
    all_goals (
      rename Fr _ _ _ _ => F8
      rename News _ _ _ _ => N8
      refine unhold (append_top F8 N8 hne (fun h10 F15 N15 => ?_) hsz)
      clear F8 N8
      rw [List.push_toArray] at N15
      k_steps
      rename Fr _ _ _ _ => F16
      rename News _ _ _ _ => N16
      exact fin (by unfold a2bStep; rw [hvv, if_neg (by assumption)]; dsimp only; first | rw [if_pos (by assumption)] | rw [if_neg (by assumption), if_pos (by assumption)] | rw [if_neg (by assumption), if_neg (by assumption), if_pos (by assumption)] | rw [if_neg (by assumption), if_neg (by assumption), if_neg (by assumption)]) (intsAre_push hD _ _) rfl F16 N16 rfl rfl rfl rfl rfl rfl)
  · intro h' tk' m' news' F' N' hJ
    obtain ⟨oa, oits, n, t1, t2, t3, t4, iv, e1, e2, e3, e4, e5, e6, rfl, hD⟩ := hJ
    have hln := (a2bAt_ok hc ns.length).2
    rw [canon6 e1 e2 e3 e4 e5 e6, he] at F'
    rw [he] at hD hln
    clear F2 N2
    have hdl := hD.length
    dsimp only at hD hln hdl F'
    k_steps
    all_goals (
      rename Fr _ _ _ _ => F8
      rename News _ _ _ _ => N8
      refine unhold (call_bytes_ints (ns := os) ⟨_, (N8 _ (.head _)).1, rfl, _, rfl⟩ hD hos (by simp only [sizeLine]; omega) rfl fun h9 t9 k9 hk9 => ?_)
      k_steps
      exact ret _ _ _ fun b o e => hk9 _ _ (F8.keep _ _ e))
end
end Mine
end
section
open PySem PySem.W PyProof.Rows PySem.Calls
set_option maxRecDepth 100000
set_option maxHeartbeats 0
set_option rowWalk.seconds 0
set_option linter.unusedVariables false
namespace Mine
section
variable {w : World} {A : Around} {E : Value → Shared → Prop} {s : Shared} {p : Program} {loose : List Str} {mean : ExcName → Option Value} {mg mb : Str → Option Value} {Q : Value → Shared → Prop}
local macro_rules | `(tactic| walk_at "call ref") => `(tactic| (refine hold ?_))
open PySem.Builtin._codecs in
theorem c_b64decode {x : Str} {t : Tok} {b : Array UInt8} {ns os : List Int} {q l pd : Int} (hE : encodeNarrow "str.encode" asciiCodec none (.str x t) x = pure b) (hbs : b.size ≤ sizeLine) (hb : KBw.bInts b = ns) (hc : ∀ c ∈ ns, c = 61 ∨ (0 ≤ b64Val c ∧ b64Val c < 64)) (hl : ns.length ≤ 4) (he : a2bAt ns ns.length = (os, q, l, pd)) (hq1 : q ≠ 1) (hq4 : q = 0 ∨ 4 ≤ q + pd) (hos : ∀ n ∈ os, 0 ≤ n ∧ n < 256) (R : Ready (Mine.hd.heap_1 w.params) p loose mean mg mb A 5 s.heap)
    (ret : ∀ t h' tk, Kp s.heap h' → Q (.bytes (byteArr os) t) { s with heap := h', toks := tk }) :
    On PySem.Challenge.rw_qh0025_01 Mine.hd.heap_1 (wpAny (model prog w) A (call (.ref 175) [.str x t] ) Q E s) := by
  k_fill
  unfold On
  k_dflt (refine' enter (n := 4) R ?k6 ?k7 ?k9 ?kB ?_ ?c2 ?c3 ?c4 ?c5; (case k6 => k_is); (case k7 => k_is); (case k9 => first | exact BindsTo.of_eq rfl | exact binds_K R.X rfl (by k_is) rfl rfl rfl); (case c5 => decide); (case kB => exact locs rfl); (case c2 => exact rfl); (case c3 => exact rfl); (case c4 => exact rfl))
  intro dp fr gd un L h1 hdp hun R1 F0 N0 X0 T0
  (try dsimp only)
  k_steps
  refine unhold (off (c_bfdd hE hbs ((R1 _ (Fr.keep (by k_asm))).less (by omega)) fun t4 h4 tk4 k9 => ?_))
  rename Fr _ _ _ _ => F9
  rename News _ _ _ _ => N9
  replace F9 := frKp F9 k9
  replace N9 := newsKp N9 k9
  clear k9
  k_steps
  refine unhold (off (c_a2b hb hc hl he hq1 hq4 hos ((R1 _ (Fr.keep (by k_asm))).less (by omega)) fun t4 h4 tk4 k9 => ?_))
  rename Fr _ _ _ _ => F9
  rename News _ _ _ _ => N9
  replace F9 := frKp F9 k9
  replace N9 := newsKp N9 k9
  clear k9
  k_steps
  exact ret _ _ _ (Fr.keep (by assumption))
end
end Mine
end
section
open PySem PySem.W PyProof.Rows PySem.Calls
set_option maxRecDepth 100000
set_option maxHeartbeats 0
set_option rowWalk.seconds 0
set_option linter.unusedVariables false
namespace Mine
section
variable {w : World} {A : Around} {E : Value → Shared → Prop} {s : Shared} {p : Program} {loose : List Str} {mean : ExcName → Option Value} {mg mb : Str → Option Value} {Q : Value → Shared → Prop}
def octTab : List Int := [0, 62, 251, 255, 7]
def octAt (x k : Int) : Int := octTab.getD (((x.fdiv 3).fdiv (5 ^ k.toNat)).fmod 5).toNat 0
def octs (x : Int) : List Int := (List.range (1 + x.fmod 3).toNat).map fun k => octAt x (k : Nat)
theorem octTab_in : ∀ j, j < 5 → 0 ≤ octTab.getD j 0 ∧ octTab.getD j 0 < 256 := by decide
theorem octAt_in (x k : Int) : 0 ≤ octAt x k ∧ octAt x k < 256 := by
  have h0 := Int.fmod_nonneg_of_pos ((x.fdiv 3).fdiv (5 ^ k.toNat)) (b := 5) (by decide)
  have h1 := Int.fmod_lt_of_pos ((x.fdiv 3).fdiv (5 ^ k.toNat)) (b := 5) (by decide)
  exact octTab_in _ (by omega)
theorem mod3_in (x : Int) : 0 ≤ x.fmod 3 ∧ x.fmod 3 ≤ 2 := ⟨Int.fmod_nonneg_of_pos _ (by decide), by have := Int.fmod_lt_of_pos x (b := 3) (by decide); omega⟩
theorem mod5_in (x : Int) : 0 ≤ x.fmod 5 ∧ x.fmod 5 < 5 := ⟨Int.fmod_nonneg_of_pos _ (by decide), by have := Int.fmod_lt_of_pos x (b := 5) (by decide); omega⟩
theorem octs_len (x : Int) : (octs x).length = (1 + x.fmod 3).toNat := by simp [octs]
theorem octs_in {x : Int} : ∀ n ∈ octs x, 0 ≤ n ∧ n < 256 := by
  intro n h
  obtain ⟨k, _, rfl⟩ := List.mem_map.mp h
  exact octAt_in _ _
theorem octs_at {x : Int} {i : Nat} (h : i < (1 + x.fmod 3).toNat) : (octs x)[i]? = some (octAt x (i : Nat)) := by
  simp [octs, h]
theorem pow5_py {k : Int} (h0 : 0 ≤ k) (h1 : k ≤ 2) : ((5 : Int) ^ k.toNat).natAbs.log2 < 9000 := by
  have : k = 0 ∨ k = 1 ∨ k = 2 := by omega
  rcases this with rfl | rfl | rfl <;> decide +kernel
theorem pow5_ne {k : Int} (h0 : 0 ≤ k) (h1 : k ≤ 2) : ((5 : Int) ^ k.toNat) ≠ 0 := Int.ne_of_gt (pow_pos_of (by decide) _)
local macro_rules | `(tactic| walk_at "eval ListComp") => `(tactic| (refine hold ?_))
local macro_rules | `(tactic| walk_at "CompSrc") => `(tactic| (refine hold ?_))
local macro_rules | `(tactic| walk_at "call type:range") => `(tactic| (refine hold ?_))
local macro_rules | `(tactic| walk_at "subscriptTail") => `(tactic| (refine hold ?_))
local macro_rules | `(tactic| walk_at "call type:bytes") => `(tactic| (refine hold ?_))
local macro_rules | `(tactic| walk_at "binaryOp Pow int int") => `(tactic| (with_reducible refine pow_int_small ?kb1 ?kb2 ?kb3 ?_; (case kb1 => omega); (case kb2 => omega); (case kb3 => decide)))
local macro_rules | `(tactic| walk_at "binaryOp FloorDiv int int") => `(tactic| (with_reducible refine floordiv_int ?kbe ?_ (Or.inl (PyProof.noPylong_of_log2 (pow5_py ?kbp ?kbq))); (case kbe => exact pow5_ne (by omega) (by omega)); (case kbp => omega); (case kbq => omega)))
theorem c_octets {x : Int} {t : Tok} (R : Ready (Mine.hd.heap_1 w.params) p loose mean mg mb A 3 s.heap)
    (ret : ∀ t h' tk, Kp s.heap h' → Q (.bytes (byteArr (octs x)) t) { s with heap := h', toks := tk }) :
    On PySem.Challenge.rw_qh0025_01 Mine.hd.heap_1 (wpAny (model prog w) A (call (.ref 241) [.int x t] ) Q E s) := by
  k_fill
  unfold On
  k_dflt (refine' enterC (n := 2) R ?k6 ?k7 ?k9 ?kB ?kD ?_ ?c2 ?c3 ?c4; (case k6 => k_is); (case k7 => k_is); (case k9 => exact BindsTo.of_eq rfl); (case kB => exact rfl); (case kD => decide +kernel); (case c2 => exact rfl); (case c3 => exact rfl); (case c4 => exact rfl))
  intro dp fr gd un L h1 tk1 cells hdp hun R1 F0 N0 Y0 X0 T0
  (try dsimp only)
  k_cells Y0
  have hx3 := mod3_in x
  k_steps
  refine unhold ?_
  rename News _ _ _ _ => N2
  rename Fr _ _ _ _ => F2
  refine LCg.ListComp_U F2 (by with_unfolding_all rfl) (by decide) rfl (by decide) rfl ?_
  k_steps
  refine unhold (compRange rfl (by omega) (by omega) F2 N2 (fun i ys nw => IntsAre ys ((octs x).take i) ∧ nw = _) ⟨.nil, rfl⟩ ?_ ?_)
  · clear F2 N2
    intro i ys nw hi hJ t1 I oI C oC D m2 h2 tk2 hC hx F5 N5 off ne
    obtain ⟨hD, rfl⟩ := hJ
    have hi0 : 0 ≤ (i : Int) := Int.natCast_nonneg i
    have hiN : i < (1 + x.fmod 3).toNat := by omega
    have hO := octs_at hiN
    have hv5 := mod5_in ((x.fdiv 3).fdiv (5 ^ (i : Int).toNat))
    have hT : (octs x).take (i + 1) = (octs x).take i ++ [octAt x (i : Nat)] := by rw [List.take_add_one, hO]; rfl
    generalize hkv : (i : Int) = kv at *
    k_steps
    rename Fr _ _ _ _ => F6
    rename News _ _ _ _ => N6
    refine unhold (item_listI (ns := octTab) ⟨_, (N6 _ (.head _)).1, rfl, _, rfl⟩ (.cons _ _ (.cons _ _ (.cons _ _ (.cons _ _ (.cons _ _ .nil))))) hv5.1 (by exact hv5.2) (by omega) fun t4 => ?_)
    refine LCg.CompEnd.intro F6 N6 _ (fun q hq => .tail _ hq) off trivial ⟨?_, rfl⟩
    rw [hT]
    exact intsAre_push hD _ _
  · intro h tk ys nw hJ D' h' tk' F' N' o1
    obtain ⟨hD, rfl⟩ := hJ
    rw [← octs_len, List.take_length] at hD
    clear F2 N2
    k_steps
    refine unhold (call_bytes_ints (ns := octs x) ⟨_, (N' _ (.head _)).1, rfl, _, rfl⟩ hD octs_in (by have := hD.length; rw [octs_len] at this; simp only [sizeLine]; omega) rfl fun h9 t9 k9 hk9 => ?_)
    k_steps
    exact ret _ _ _ fun b o e => hk9 _ _ (F'.keep _ _ e)
end
end Mine
end
section
open PySem PySem.W PyProof.Rows PySem.Calls
set_option maxRecDepth 100000
set_option linter.unusedVariables false
namespace Mine
def lettersN : List Nat := [65, 66, 67, 68, 69, 70, 71, 72, 73, 74, 75, 76, 77, 78, 79, 80, 81, 82, 83, 84, 85, 86, 87, 88, 89, 90, 97, 98, 99, 100, 101, 102, 103, 104, 105, 106, 107, 108, 109, 110, 111, 112, 113, 114, 115, 116, 117, 118, 119, 120, 121, 122, 48, 49, 50, 51, 52, 53, 54, 55, 56, 57, 43, 47]
theorem sixLetters_is : sixLetters = txt lettersN := by decide +kernel
def sixL (ns : List Int) : List Nat := (List.range (1 + ns.length)).map (fun i : Nat => lettersN.getD (((hornAt (padOf ns) 3).fdiv (64 ^ (3 + (i : Int) * (-1)).toNat)).fmod 64).toNat 0) ++ List.replicate (3 - ns.length) 61
theorem item_txt {l : List Nat} {i : Int} (h0 : 0 ≤ i) (h1 : i < (l.length : Int)) : Txt.item (txt l) i = txt [l.getD i.toNat 0] := by
  have hlt : i.toNat < l.length := by omega
  have e : Txt.charAt (txt l) i = some (l.getD i.toNat 0) := by
    unfold Txt.charAt
    rw [seqIndex_of h0 (by rw [txt_len]; exact h1)]
    show (txt l).cps[i.toNat]? = _
    rw [txt_cps, List.getElem?_toArray, List.getD_eq_getElem?_getD, List.getElem?_eq_getElem hlt]; rfl
  show (⟨#[(Txt.charAt (txt l) i).getD 0]⟩ : Str) = _
  rw [e]; rfl
theorem joinL_nil (l : List (List Nat)) : joinL [] l = l.flatten := by
  cases l with
  | nil => rfl
  | cons a l => simp [joinL]
theorem six_txt {ns : List Int} (hl : 1 ≤ ns.length ∧ ns.length ≤ 3) : sixStr ns = txt (sixL ns) := by
  have e1 : (List.range (1 + ns.length)).map (sixAt (hornAt (padOf ns) 3)) = ((List.range (1 + ns.length)).map fun i : Nat => [lettersN.getD (((hornAt (padOf ns) 3).fdiv (64 ^ (3 + (i : Int) * (-1)).toNat)).fmod 64).toNat 0]).map txt := by
    rw [List.map_map]
    refine List.map_congr_left fun i _ => ?_
    have hm := mod64_in ((hornAt (padOf ns) 3).fdiv (64 ^ (3 + (i : Int) * (-1)).toNat))
    unfold sixAt
    rw [sixLetters_is]
    exact item_txt hm.1 hm.2
  have e2 : Txt.mul (Str.ofString "=") ((3 - ns.length : Nat) : Int) = txt (List.replicate (3 - ns.length) 61) := by
    have : ns.length = 1 ∨ ns.length = 2 ∨ ns.length = 3 := by omega
    rcases this with h | h | h <;> rw [h] <;> decide +kernel
  unfold sixStr
  rw [e1, join_is (Str.ofString "") [] rfl, joinL_nil, e2, txt_cat]
  unfold sixL
  congr 2
  generalize List.range (1 + ns.length) = r
  induction r with
  | nil => rfl
  | cons a r ih => simp only [List.map_cons, List.flatten_cons, ih]; rfl
/-- what is asked of the octets' text -/
def okB (ns : List Int) : Bool :=
  decide ((b2aL ns).map Int.toNat = sixL ns) && decide ((b2aL ns).length = 4) && (b2aL ns).all (fun c => decide (0 ≤ c) && decide (c < 128) && (c == 61 || (decide (0 ≤ b64Val c) && decide (b64Val c < 64)))) &&
  (sixL ns).all goodC && (let r := a2bAt (b2aL ns) 4; decide (r.1 = ns) && !(r.2.1 == 1) && (r.2.1 == 0 || decide (4 ≤ r.2.1 + r.2.2.2)))
theorem ok_one : octTab.all (fun a => okB [a]) = true := by decide +kernel
theorem ok_two : octTab.all (fun a => octTab.all fun b => okB [a, b]) = true := by decide +kernel
theorem ok_three : octTab.all (fun a => octTab.all fun b => octTab.all fun c => okB [a, b, c]) = true := by decide +kernel
theorem octAt_mem (x k : Int) : octAt x k ∈ octTab := by
  have h := mod5_in ((x.fdiv 3).fdiv (5 ^ k.toNat))
  unfold octAt
  generalize ((x.fdiv 3).fdiv (5 ^ k.toNat)).fmod 5 = j at *
  have : j = 0 ∨ j = 1 ∨ j = 2 ∨ j = 3 ∨ j = 4 := by omega
  rcases this with rfl | rfl | rfl | rfl | rfl <;> decide
theorem octs_mem {x : Int} : ∀ n ∈ octs x, n ∈ octTab := by
  intro n h
  obtain ⟨k, _, rfl⟩ := List.mem_map.mp h
  exact octAt_mem _ _
theorem octs_len13 (x : Int) : 1 ≤ (octs x).length ∧ (octs x).length ≤ 3 := by
  have := mod3_in x
  rw [octs_len]; omega
theorem ok_octs (x : Int) : okB (octs x) = true := by
  have hm := octs_mem (x := x)
  have hl := octs_len13 x
  generalize octs x = ns at *
  match ns, hl with
  | [a], _ => exact List.all_eq_true.mp ok_one a (hm a (by simp))
  | [a, b], _ => exact List.all_eq_true.mp (List.all_eq_true.mp ok_two a (hm a (by simp))) b (hm b (by simp))
  | [a, b, c], _ => exact List.all_eq_true.mp (List.all_eq_true.mp (List.all_eq_true.mp ok_three a (hm a (by simp))) b (hm b (by simp))) c (hm c (by simp))
end Mine
end
section
open PySem PySem.W PyProof.Rows PySem.Calls
set_option maxRecDepth 100000
set_option linter.unusedVariables false
namespace Mine
structure Six (ns : List Int) : Prop where
  text : (b2aL ns).map Int.toNat = sixL ns
  four : (b2aL ns).length = 4
  each : ∀ c ∈ b2aL ns, 0 ≤ c ∧ c < 128 ∧ (c = 61 ∨ (0 ≤ b64Val c ∧ b64Val c < 64))
  good : ∀ c ∈ sixL ns, goodC c = true
  back : ∃ q l pd, a2bAt (b2aL ns) (b2aL ns).length = (ns, q, l, pd) ∧ q ≠ 1 ∧ (q = 0 ∨ 4 ≤ q + pd)
theorem six_of {ns : List Int} (h : okB ns = true) : Six ns := by
  unfold okB at h
  simp only [Bool.and_eq_true, decide_eq_true_eq, List.all_eq_true, Bool.or_eq_true, beq_iff_eq, Bool.not_eq_true', beq_eq_false_iff_ne] at h
  obtain ⟨⟨⟨⟨h1, h2⟩, h3⟩, h4⟩, ⟨h5, h6⟩, h7⟩ := h
  refine ⟨h1, h2, fun c hc => ?_, h4, (a2bAt (b2aL ns) 4).2.1, (a2bAt (b2aL ns) 4).2.2.1, (a2bAt (b2aL ns) 4).2.2.2, ?_, h6, h7⟩
  · obtain ⟨⟨a, b⟩, c⟩ := h3 c hc
    exact ⟨a, b, c⟩
  · rw [h2]
    exact Prod.ext h5 rfl
theorem six_octs (x : Int) : Six (octs x) := six_of (ok_octs x)
theorem byte_back7 {n : Int} (h0 : 0 ≤ n) (h1 : n < 128) : n.toNat.toUInt8.toNat = n.toNat := by
  have := byte_back h0 (show n < 256 by omega)
  omega
theorem four_of {l : List Int} (h : l.length = 4) : ∃ a b c d, l = [a, b, c, d] := by
  match l, h with
  | [a, b, c, d], _ => exact ⟨a, b, c, d, rfl⟩
open PySem.Builtin._codecs in
theorem dec_six {ns : List Int} (h : Six ns) : ∃ c cs, byteArr (b2aL ns) = (c :: cs).toArray ∧ ∀ id, runDecoder id asciiDecoder none true (c :: cs).toArray 0 [] = pure ((txt (sixL ns)).cps, 4) := by
  obtain ⟨h1, h2, h3, h4, h5⟩ := h
  obtain ⟨a, b, c, d, e⟩ := four_of h2
  rw [e] at h1 h3 ⊢
  have ha := h3 a (by simp)
  have hb := h3 b (by simp)
  have hc := h3 c (by simp)
  have hd := h3 d (by simp)
  refine ⟨a.toNat.toUInt8, [b.toNat.toUInt8, c.toNat.toUInt8, d.toNat.toUInt8], rfl, fun id => ?_⟩
  have ea := byte_back7 ha.1 ha.2.1
  have eb := byte_back7 hb.1 hb.2.1
  have ec := byte_back7 hc.1 hc.2.1
  have ed := byte_back7 hd.1 hd.2.1
  have := run_ascii (id := id) (a := a.toNat.toUInt8) (b := b.toNat.toUInt8) (c := c.toNat.toUInt8) (d := d.toNat.toUInt8) (by omega) (by omega) (by omega) (by omega)
  rw [ea, eb, ec, ed] at this
  rw [← h1]
  exact this
open PySem.Builtin._codecs in
theorem enc_six {ns : List Int} (h : Six ns) {id : String} {self : Value} : encodeNarrow id asciiCodec none self (txt (sixL ns)) = pure (byteArr (b2aL ns)) := by
  obtain ⟨h1, h2, h3, h4, h5⟩ := h
  obtain ⟨a, b, c, d, e⟩ := four_of h2
  rw [e] at h1 h3 ⊢
  have ha := h3 a (by simp)
  have hb := h3 b (by simp)
  have hc := h3 c (by simp)
  have hd := h3 d (by simp)
  rw [← h1]
  exact enc_ascii (by omega) (by omega) (by omega) (by omega)
def modeK : List Nat := [109, 111, 100, 101]
def dataK : List Nat := [100, 97, 116, 97]
def lateK : List Nat := [108, 97, 116, 101]
theorem modeK_is : Str.ofString "mode" = txt modeK := by decide +kernel
theorem dataK_is : Str.ofString "data" = txt dataK := by decide +kernel
theorem lateK_is : Str.ofString "late" = txt lateK := by decide +kernel
theorem txt_back (y : Str) : txt y.cps.toList = y := by cases y; simp [txt]
def sgnL (x : Int) : List Nat := (sgnText (decide (x.fmod 2 = 0)) ((x.fdiv 2).fmod 4096) 9).cps.toList
abbrev lateP (x : Int) : Prop := (x.fdiv 2).fmod 2 = 1
def rowL (x : Int) : List Pr := [(modeK, some (sgnL x)), (dataK, some (sixL (octs x)))] ++ (if lateP x then [(lateK, none)] else [])
theorem six_len4 (x : Int) : (sixL (octs x)).length = 4 := by
  have := six_octs x
  rw [← this.text, List.length_map]; exact this.four
theorem sgnL_len (x : Int) : (sgnL x).length = 10 := by
  have := sgnText_len (decide (x.fmod 2 = 0)) ((x.fdiv 2).fmod 4096) 9
  show (Array.toList _).length = 10
  rw [Array.length_toList]; exact this
theorem sgn_chars (r k : Int) : k = 0 ∨ k = 1 ∨ k = 2 ∨ k = 3 ∨ k = 4 ∨ k = 5 ∨ k = 6 ∨ k = 7 ∨ k = 8 → ∀ c ∈ (sgn r k).cps.toList, bareC c = true := by
  have hb := bit_in (r.fdiv (2 ^ (8 - k).toNat))
  change 0 ≤ sgnBit r k ∧ sgnBit r k ≤ 1 at hb
  intro hk
  unfold sgn
  generalize sgnBit r k = b at *
  have : b = 0 ∨ b = 1 := by omega
  rcases hk with rfl | rfl | rfl | rfl | rfl | rfl | rfl | rfl | rfl <;> rcases this with rfl | rfl <;> (split <;> decide +kernel)
theorem sgnText_chars (f : Bool) (r : Int) : ∀ i, i ≤ 9 → ∀ c ∈ (sgnText f r i).cps.toList, bareC c = true
  | 0, _ => by cases f <;> (show ∀ c ∈ (Str.ofString _).cps.toList, bareC c = true; decide +kernel)
  | i + 1, h => by
    intro c hc
    rw [sgnText, Str.cps_append, Array.toList_append] at hc
    rcases List.mem_append.mp hc with hc | hc
    · exact sgnText_chars f r i (by omega) c hc
    · exact sgn_chars r i (by omega) c hc
theorem rowL_good (x : Int) : GoodR (rowL x) := by
  have hs := six_octs x
  refine ⟨by unfold rowL; simp, fun p hp => ?_⟩
  unfold rowL at hp
  rcases List.mem_append.mp hp with hp | hp
  · simp only [List.mem_cons, List.not_mem_nil, or_false] at hp
    rcases hp with rfl | rfl
    · refine ⟨show modeK ≠ [] by decide, show ∀ c ∈ modeK, letC c = true by decide, fun v hv => ?_⟩
      cases hv
      exact ⟨fun e => (by have := sgnL_len x; rw [e] at this; cases this), fun c hc => good_of_bare (sgnText_chars _ _ 9 (Nat.le_refl _) c hc)⟩
    · refine ⟨show dataK ≠ [] by decide, show ∀ c ∈ dataK, letC c = true by decide, fun v hv => ?_⟩
      cases hv
      exact ⟨fun e => (by have := six_len4 x; rw [e] at this; cases this), hs.good⟩
  · split at hp
    · rw [List.mem_singleton.mp hp]
      exact ⟨by decide, by decide, fun v hv => by cases hv⟩
    · cases hp
theorem rowL_small (x : Int) : (rowL x).length ≤ 16 ∧ ∀ p ∈ rowL x, SmallP p := by
  constructor
  · unfold rowL; split <;> simp
  · intro p hp
    unfold rowL at hp
    rcases List.mem_append.mp hp with hp | hp
    · simp only [List.mem_cons, List.not_mem_nil, or_false] at hp
      rcases hp with rfl | rfl
      · exact ⟨show modeK.length ≤ 16 by decide, fun v hv => by cases hv; have := sgnL_len x; omega⟩
      · exact ⟨show dataK.length ≤ 16 by decide, fun v hv => by cases hv; have := six_len4 x; omega⟩
    · split at hp
      · rw [List.mem_singleton.mp hp]
        exact ⟨by decide, fun v hv => by cases hv⟩
      · cases hp
end Mine
end
section
open PySem PySem.W PyProof.Rows PySem.Calls
set_option maxRecDepth 100000
set_option maxHeartbeats 0
set_option rowWalk.seconds 0
set_option linter.unusedVariables false
namespace Mine
section
variable {w : World} {A : Around} {E : Value → Shared → Prop} {s : Shared} {p : Program} {loose : List Str} {mean : ExcName → Option Value} {mg mb : Str → Option Value} {Q : Value → Shared → Prop}
local macro_rules | `(tactic| walk_at "call ref") => `(tactic| (refine hold ?_))
theorem c_b64encode {b : Array UInt8} {t : Tok} {ns : List Int} (hb : KBw.bInts b = ns) (hr : ∀ n ∈ ns, 0 ≤ n ∧ n < 256) (hl : 1 ≤ ns.length ∧ ns.length ≤ 3) (R : Ready (Mine.hd.heap_1 w.params) p loose mean mg mb A 5 s.heap)
    (ret : ∀ t h' tk, Kp s.heap h' → Q (.bytes (byteArr (b2aL ns)) t) { s with heap := h', toks := tk }) :
    On PySem.Challenge.rw_qh0025_01 Mine.hd.heap_1 (wpAny (model prog w) A (call (.ref 167) [.bytes b t] ) Q E s) := by
  k_fill
  unfold On
  k_dflt (refine' enter (n := 4) R ?k6 ?k7 ?k9 ?kB ?_ ?c2 ?c3 ?c4 ?c5; (case k6 => k_is); (case k7 => k_is); (case k9 => first | exact BindsTo.of_eq rfl | exact binds_K R.X rfl (by k_is) rfl rfl rfl); (case c5 => decide); (case kB => exact locs rfl); (case c2 => exact rfl); (case c3 => exact rfl); (case c4 => exact rfl))
  intro dp fr gd un L h1 hdp hun R1 F0 N0 X0 T0
  (try dsimp only)
  k_steps
  refine unhold (off (c_b2a hb hr hl ((R1 _ (Fr.keep (by k_asm))).less (by omega)) fun t4 h4 tk4 k9 => ?_))
  rename Fr _ _ _ _ => F9
  rename News _ _ _ _ => N9
  replace F9 := frKp F9 k9
  replace N9 := newsKp N9 k9
  clear k9
  k_steps
  exact ret _ _ _ (Fr.keep (by assumption))
end
end Mine
end
section
open PySem PySem.W PyProof.Rows PySem.Calls
set_option maxRecDepth 100000
set_option maxHeartbeats 0
set_option rowWalk.seconds 0
set_option linter.unusedVariables false
namespace Mine
section
variable {w : World} {A : Around} {E : Value → Shared → Prop} {s : Shared} {p : Program} {loose : List Str} {mean : ExcName → Option Value} {mg mb : Str → Option Value} {Q : Value → Shared → Prop}
theorem datStr {made : List (Addr × Obj)} {x y : Str} {t : Tok} (h : x = y) : DatIn made (.str x t) (.str y) := h ▸ DatIn.str _ _
abbrev tup2 (a b : Value) (n : Nat) : Obj := { cls := .type "tuple", data := .seq #[a, b] n }
theorem row_two {x : Int} {made : List (Addr × Obj)} {D a1 a2 : Addr} {k1 v1 k2 v2 : Str} {t1 u1 t2 u2 : Tok} {n n1 n2 : Nat} (hl : ¬ lateP x) (hD : (D, W.listOf (List.toArray [.ref a1, .ref a2]) n) ∈ made) (h1 : (a1, tup2 (.str k1 t1) (.str v1 u1) n1) ∈ made) (h2 : (a2, tup2 (.str k2 t2) (.str v2 u2) n2) ∈ made)
    (e1 : k1 = txt modeK) (e2 : v1 = txt (sgnL x)) (e3 : k2 = txt dataK) (e4 : v2 = txt (sixL (octs x))) : DatIn made (.ref D) (rowDat (rowL x)) := by
  unfold rowL
  rw [if_neg hl]
  exact .list hD (.cons (.tuple h1 (.cons (datStr e1) (.cons (datStr e2) .nil))) (.cons (.tuple h2 (.cons (datStr e3) (.cons (datStr e4) .nil))) .nil))
theorem row_three {x : Int} {made : List (Addr × Obj)} {D a1 a2 a3 : Addr} {k1 v1 k2 v2 k3 : Str} {t1 u1 t2 u2 t3 : Tok} {n n1 n2 n3 : Nat} (hl : lateP x) (hD : (D, W.listOf (List.toArray [.ref a1, .ref a2, .ref a3]) n) ∈ made) (h1 : (a1, tup2 (.str k1 t1) (.str v1 u1) n1) ∈ made) (h2 : (a2, tup2 (.str k2 t2) (.str v2 u2) n2) ∈ made) (h3 : (a3, tup2 (.str k3 t3) .none n3) ∈ made)
    (e1 : k1 = txt modeK) (e2 : v1 = txt (sgnL x)) (e3 : k2 = txt dataK) (e4 : v2 = txt (sixL (octs x))) (e5 : k3 = txt lateK) : DatIn made (.ref D) (rowDat (rowL x)) := by
  unfold rowL
  rw [if_pos hl]
  exact .list hD (.cons (.tuple h1 (.cons (datStr e1) (.cons (datStr e2) .nil))) (.cons (.tuple h2 (.cons (datStr e3) (.cons (datStr e4) .nil))) (.cons (.tuple h3 (.cons (datStr e5) (.cons .none .nil))) .nil)))
theorem octs_bytes (x : Int) : KBw.bInts (byteArr (octs x)) = octs x := KBa.ints_make octs_in
local macro_rules | `(tactic| walk_at "call ref") => `(tactic| (refine hold ?_))
local macro_rules | `(tactic| walk_at "call type:str") => `(tactic| (refine hold ?_))
local macro_rules | `(tactic| walk_at "eval Call Name") => `(tactic| ((with_reducible show wpAny _ _ (eval (Expr.Call (Expr.Name _ _) _ [] _) _) _ _ _); refine Call_ ?_))
theorem c_law_due {x : Int} {t : Tok} (R : Ready (Mine.hd.heap_1 w.params) p loose mean mg mb A 6 s.heap)
    (ret : ∀ v h' tk made, Kp s.heap h' → (∀ q ∈ made, h'.get? q.1 = some q.2 ∧ s.heap.get? q.1 = none) → DatIn made v (rowDat (rowL x)) → Q v { s with heap := h', toks := tk }) :
    On PySem.Challenge.rw_qh0025_01 Mine.hd.heap_1 (wpAny (model prog w) A (call (.ref 279) [.int x t] ) Q E s) := by
  k_fill
  unfold On
  k_dflt (refine' enter (n := 5) R ?k6 ?k7 ?k9 ?kB ?_ ?c2 ?c3 ?c4 ?c5; (case k6 => k_is); (case k7 => k_is); (case k9 => exact BindsTo.of_eq rfl); (case c5 => decide); (case kB => exact locs rfl); (case c2 => exact rfl); (case c3 => exact rfl); (case c4 => exact rfl))
  intro dp fr gd un L h1 hdp hun R1 F0 N0 X0 T0
  (try dsimp only)
  have hr := mod4096_in (x.fdiv 2)
  k_steps
  refine unhold (off (c_signs hr.1 hr.2 ((R1 _ (Fr.keep (by k_asm))).less (by omega)) fun t4 h4 tk4 k9 => ?_))
  rename Fr _ _ _ _ => F9
  rename News _ _ _ _ => N9
  replace F9 := frKp F9 k9
  replace N9 := newsKp N9 k9
  clear k9
  k_steps
  refine unhold (off (c_octets  ((R1 _ (Fr.keep (by k_asm))).less (by omega)) fun t4 h4 tk4 k9 => ?_))
  rename Fr _ _ _ _ => F9
  rename News _ _ _ _ => N9
  replace F9 := frKp F9 k9
  replace N9 := newsKp N9 k9
  clear k9
  k_steps
  refine unhold (off (c_sixes (octs_bytes x) octs_in (octs_len13 x) ((R1 _ (Fr.keep (by k_asm))).less (by omega)) fun t4 h4 tk4 k9 => ?_))
  rename Fr _ _ _ _ => F9
  rename News _ _ _ _ => N9
  replace F9 := frKp F9 k9
  replace N9 := newsKp N9 k9
  clear k9
  k_steps
  · have hl : lateP x := ‹(x.fdiv 2).fmod 2 = 1›
    rename News _ _ _ _ => N9
    exact ret _ _ _ _ (Fr.keep (by assumption)) (fun q hq => ⟨(N9 q hq).1, (N9 q hq).2.2⟩) (row_three hl (by k_mem) (by k_mem) (by k_mem) (by k_mem) modeK_is (txt_back _).symm dataK_is (six_txt (octs_len13 x)) lateK_is)
  · have hl : ¬ lateP x := ‹(x.fdiv 2).fmod 2 ≠ 1›
    rename News _ _ _ _ => N9
    exact ret _ _ _ _ (Fr.keep (by assumption)) (fun q hq => ⟨(N9 q hq).1, (N9 q hq).2.2⟩) (row_two hl (by k_mem) (by k_mem) (by k_mem) modeK_is (txt_back _).symm dataK_is (six_txt (octs_len13 x)))
theorem c_law_row {x : Int} {t : Tok} (R : Ready (Mine.hd.heap_1 w.params) p loose mean mg mb A 6 s.heap)
    (ret : ∀ v h' tk made, Kp s.heap h' → (∀ q ∈ made, h'.get? q.1 = some q.2 ∧ s.heap.get? q.1 = none) → DatIn made v (rowDat (rowL x)) → Q v { s with heap := h', toks := tk }) :
    On PySem.Challenge.rw_qh0025_01 Mine.hd.heap_1 (wpAny (model prog w) A (call (.ref 255) [.int x t] ) Q E s) := by
  k_fill
  unfold On
  k_dflt (refine' enter (n := 5) R ?k6 ?k7 ?k9 ?kB ?_ ?c2 ?c3 ?c4 ?c5; (case k6 => k_is); (case k7 => k_is); (case k9 => exact BindsTo.of_eq rfl); (case c5 => decide); (case kB => exact locs rfl); (case c2 => exact rfl); (case c3 => exact rfl); (case c4 => exact rfl))
  intro dp fr gd un L h1 hdp hun R1 F0 N0 X0 T0
  (try dsimp only)
  have hS := six_octs x
  obtain ⟨c0, cs0, hb0, hdec⟩ := dec_six hS
  have hB := octs_bytes x
  have hF := fm_is x
  k_steps
  refine unhold (off (c_law_mode  ((R1 _ (Fr.keep (by k_asm))).less (by omega)) fun t4 h4 tk4 k9 => ?_))
  rename Fr _ _ _ _ => F9
  rename News _ _ _ _ => N9
  replace F9 := frKp F9 k9
  replace N9 := newsKp N9 k9
  clear k9
  k_steps
  refine unhold (off (c_filemode  ((R1 _ (Fr.keep (by k_asm))).less (by omega)) fun t4 h4 tk4 k9 => ?_))
  rename Fr _ _ _ _ => F9
  rename News _ _ _ _ => N9
  replace F9 := frKp F9 k9
  replace N9 := newsKp N9 k9
  clear k9
  k_steps
  refine unhold (off (c_octets  ((R1 _ (Fr.keep (by k_asm))).less (by omega)) fun t4 h4 tk4 k9 => ?_))
  rename Fr _ _ _ _ => F9
  rename News _ _ _ _ => N9
  replace F9 := frKp F9 k9
  replace N9 := newsKp N9 k9
  clear k9
  k_steps
  refine unhold (off (c_b64encode hB octs_in (octs_len13 x) ((R1 _ (Fr.keep (by k_asm))).less (by omega)) fun t4 h4 tk4 k9 => ?_))
  rename Fr _ _ _ _ => F9
  rename News _ _ _ _ => N9
  replace F9 := frKp F9 k9
  replace N9 := newsKp N9 k9
  clear k9
  k_steps
  rw [hb0]
  refine unhold (call_str_ascii hdec (by rw [txt_len, six_len4]; simp only [sizeLine]; omega) fun t9 k9 => ?_)
  k_steps
  · have hl : lateP x := ‹(x.fdiv 2).fmod 2 = 1›
    rename News _ _ _ _ => N9
    exact ret _ _ _ _ (Fr.keep (by assumption)) (fun q hq => ⟨(N9 q hq).1, (N9 q hq).2.2⟩) (row_three hl (by k_mem) (by k_mem) (by k_mem) (by k_mem) modeK_is (hF.trans (txt_back _).symm) dataK_is rfl lateK_is)
  · have hl : ¬ lateP x := ‹(x.fdiv 2).fmod 2 ≠ 1›
    rename News _ _ _ _ => N9
    exact ret _ _ _ _ (Fr.keep (by assumption)) (fun q hq => ⟨(N9 q hq).1, (N9 q hq).2.2⟩) (row_two hl (by k_mem) (by k_mem) (by k_mem) modeK_is (hF.trans (txt_back _).symm) dataK_is rfl)
end
end Mine
end
section
open PySem PySem.W PyProof.Rows PySem.Calls
set_option maxRecDepth 100000
set_option maxHeartbeats 0
set_option rowWalk.seconds 0
set_option linter.unusedVariables false
namespace Mine
theorem strs_dat {made : List (Addr × Obj)} {vs : List Value} {ys : List Str} (h : StrsAre vs ys) : DatAll made vs (ys.map Dat.str) := by
  induction h with
  | nil => exact .nil
  | cons y t h ih => exact .cons (.str _ _) ih
theorem ok_strs {ys : List Str} (h : ∀ y ∈ ys, PyData.strOk y = true) : ∀ d ∈ ys.map Dat.str, kqdOk 8 d = true := by
  intro d hd
  obtain ⟨y, hy, rfl⟩ := List.mem_map.mp hd
  exact h y hy
section
variable {prog : Program} {w : World} {A : Around} {E : Value → Shared → Prop} {s : Shared} {h₀ : Heap} {L a b : Addr} {news : List (Addr × Obj)} {xs : List Value} {ka : Nat} {ys : List Str} {Q : Value → Shared → Prop}
/-- a list of texts against an empty display -/
theorem eq_empty (N : News h₀ L s.heap news) (ma : (a, W.listOf xs.toArray ka) ∈ news) (D : StrsAre xs ys) (mb : (b, W.listOf #[] 0) ∈ news) (hy : ∀ y ∈ ys, PyData.strOk y = true) (hu : A.units + 64 < cLine)
    (h1 : ys = [] → Q (.bool true) s) (h2 : ys ≠ [] → Q (.bool false) s) : wpAny (model prog w) A (compareOp .Eq (.ref a) (.ref b)) Q E s := by
  refine kqd_eq N ma rfl rfl (strs_dat D) (fun _ h => h) mb rfl (ys := []) rfl (.nil (news := [])) (fun _ h => nomatch h) (ok_strs hy) (fun _ h => nomatch h) hu ?_
  by_cases he : ys = []
  · rw [he]; simpa using h1 he
  · rw [show decide (ys.map Dat.str = []) = false from decide_eq_false (by simpa using he)]; exact h2 he
end
theorem sign_bare : ∀ c, c < 128 → goodC c = true → (Txt.isalnum ⟨#[c]⟩ || !(Builtin.Str.occurrences (Str.ofString "+-") ⟨#[c]⟩ 0 (Str.ofString "+-").length 1).isEmpty) = bareC c := by decide +kernel
def oddOf (v : List Nat) : List Str := (v.filter fun c => !bareC c).map fun c => txt [c]
theorem oddOf_nil {v : List Nat} : oddOf v = [] ↔ bareV v = true := by
  unfold oddOf bareV
  rw [List.map_eq_nil_iff, List.filter_eq_nil_iff, List.all_eq_true]
  constructor
  · intro h c hc; simpa using h c hc
  · intro h c hc; simpa using h c hc
theorem oddOf_ok {v : List Nat} (h : ∀ c ∈ v, goodC c = true) : ∀ y ∈ oddOf v, PyData.strOk y = true := by
  intro y hy
  obtain ⟨c, hc, rfl⟩ := List.mem_map.mp hy
  have := lt_of_good (h c (List.mem_filter.mp hc).1)
  simp [PyData.strOk, txt]; omega
theorem oddOf_take {v : List Nat} {i c : Nat} (h : v[i]? = some c) : oddOf (v.take (i + 1)) = oddOf (v.take i) ++ (if bareC c = true then [] else [txt [c]]) := by
  unfold oddOf
  rw [List.take_add_one, h, Option.toList_some, List.filter_append, List.map_append]
  cases hb : bareC c <;> simp [hb]
inductive XJ (r : List Pr) (i : Nat) (m : Str → Option Value) (news : List (Addr × Obj)) : Prop
  | intro : ∀ pa pits np, (m (Str.ofString "told") = some (.ref pa)) → (news = [(pa, W.listOf (List.toArray pits) np)]) → (StrsAre pits ((r.take i).map fun p => txt (pairText p))) → XJ r i m news
section
variable {w : World} {A : Around} {E : Value → Shared → Prop} {s : Shared} {p : Program} {loose : List Str} {mean : ExcName → Option Value} {mg mb : Str → Option Value} {Q : Value → Shared → Prop}
local macro_rules | `(tactic| walk_at "eval ListComp") => `(tactic| (refine hold ?_))
local macro_rules | `(tactic| walk_at "call builtin:list.append") => `(tactic| (refine hold ?_))
local macro_rules | `(tactic| walk_at "call builtin:str.join") => `(tactic| (refine hold ?_))
local macro_rules | `(tactic| walk_at "compareOp Eq ref ref") => `(tactic| (refine hold ?_))
local macro_rules | `(tactic| walk_at "exec For Tuple Name cons nil") => `(tactic| (refine For_G ?_))
theorem c_law_text {lv : Value} {r : List Pr} {made : List (Addr × Obj)} (hm : ∀ q ∈ made, s.heap.get? q.1 = some q.2) (hD : DatIn made lv (rowDat r)) (hg : GoodR r) (hs : r.length ≤ 16 ∧ ∀ p ∈ r, SmallP p) (R : Ready (Mine.hd.heap_1 w.params) p loose mean mg mb A 4 s.heap)
    (ret : ∀ t h' tk, Kp s.heap h' → Q (.str (txt (rowText r)) t) { s with heap := h', toks := tk }) :
    On PySem.Challenge.rw_qh0025_01 Mine.hd.heap_1 (wpAny (model prog w) A (call (.ref 260) [lv] ) Q E s) := by
  k_fill
  unfold On
  unfold rowDat at hD
  obtain ⟨hv, vs, n0, rfl, hvm, hDs⟩ := datList hD
  k_dflt (refine' enter (n := 3) R ?k6 ?k7 ?k9 ?kB ?_ ?c2 ?c3 ?c4 ?c5; (case k6 => k_is); (case k7 => k_is); (case k9 => exact BindsTo.of_eq rfl); (case c5 => decide); (case kB => exact locs rfl); (case c2 => exact rfl); (case c3 => exact rfl); (case c4 => exact rfl))
  intro dp fr gd un L h1 hdp hun R1 F0 N0 X0 T0
  (try dsimp only)
  k_steps
  refine unhold ?_
  rename Fr _ _ _ _ => F2
  rename News _ _ _ _ => N2
  have hl0 := hm _ hvm
  have hlL : hv ≠ L := fun e => absurd (Heap.lt_size hl0) (by rw [e]; exact Nat.not_lt.mpr F2.above)
  refine iterH (vs := vs) (J := XJ r) rfl ⟨_, F2.keep _ _ hl0, rfl, _, rfl⟩ hlL F2 N2 ?_ ?_ ?_ ⟨_, _, _, rfl⟩
  · exact ⟨_, [], _, rfl, rfl, .nil⟩
  · clear F2 N2
    intro j v m₁ news₁ h tk I own hvj hJ hnI hoff hown hIm F3 N3
    obtain ⟨pa, pits, np, e1, rfl, hDa⟩ := hJ
    obtain ⟨⟨k, o⟩, hpj, hDj⟩ := DatAll.at' hDs hvj
    obtain ⟨ta, tk0, x, n2, rfl, htm, hx1, hx2⟩ := datPair hDj
    have hT : IsTup s.heap ta #[.str (txt k) tk0, x] := ⟨_, hm _ htm, rfl, _, rfl⟩
    have hown' : ∀ q ∈ own, q.1 = I := fun q hq => by
      rcases hown q hq with e | e
      · exact e
      · exfalso
        have := (N3 q (List.mem_append_left _ hq)).2.2
        rw [e, hl0] at this; cases this
    have hprow : (k, o) ∈ r := List.mem_of_getElem? hpj
    have hjl : j < r.length := (List.getElem?_eq_some_iff.mp hpj).1
    have hgp := hg.2 _ hprow
    have hsp := hs.2 _ hprow
    have hrl := hs.1
    have hk16 : (txt k).length ≤ 16 := by rw [txt_len]; exact hsp.1
    have hpI : pa ≠ I := hoff _ (.head _)
    have hlp : pits.length ≤ 16 := by have := hDa.length; simp at this; omega
    have hsz9 : (List.toArray pits).size ≤ sizeLine := by rw [List.size_toArray]; simp only [sizeLine]; omega
    rw [canon1 e1] at F3
    replace N3 : News s.heap L h ((pa, W.listOf (List.toArray pits) np) :: own) := newsSub N3 (by
      intro q hq
      simp only [List.mem_cons, List.mem_append, List.not_mem_nil, or_false] at hq ⊢
      exact hq.symm)
    have hne : ∀ q ∈ own, q.1 ≠ pa := fun q hq => by rw [hown' q hq]; exact hpI.symm
    have fin : ∀ {h' : Heap} {tk' : Nat} {m' : Str → Option Value} {y : Str} {t' : Tok} {sA sB : Shared}, y = txt (pairText (k, o)) → sB = { sA with heap := h', toks := tk' } → Fr s.heap L h' m' → News s.heap L h' ((pa, W.listOf (List.toArray (pits ++ [.str y t'])) (np + 1)) :: own) → m' (Str.ofString "told") = some (.ref pa) → GEnd s.heap L [I] own (XJ r (j + 1)) sA sB := by
      intro h' tk' m' y t' sA sB hy hAB F N em1
      refine ⟨h', tk', m', [_], hAB, F, newsSub N ?_, ?_, pa, pits ++ [.str y t'], np + 1, em1, rfl, ?_⟩
      · intro q hq
        simp only [List.mem_cons, List.mem_append, List.not_mem_nil, or_false] at hq ⊢
        exact hq.symm
      · intro q hq hqI
        rw [List.mem_singleton.mp hq] at hqI
        exact hpI (List.mem_singleton.mp hqI)
      · rw [List.take_add_one, hpj, List.map_append, hy]
        exact strsAre_push hDa _ _
    cases o with
    | none =>
      cases hx1 rfl
      k_steps
      rename Fr _ _ _ _ => F8
      rename News _ _ _ _ => N8
      refine unhold (append_top F8 N8 hne (fun h10 F15 N15 => ?_) hsz9)
      clear F8 N8
      rw [List.push_toArray] at N15
      k_steps
      exact fin rfl rfl F15 N15 rfl
    | some v =>
      obtain ⟨u, rfl⟩ := hx2 v rfl
      have hv16 : (txt v).length ≤ 16 := by rw [txt_len]; exact hsp.2 v rfl
      have hv16' : v.length ≤ 16 := hsp.2 v rfl
      obtain ⟨hv0, hvc⟩ := hgp.v v rfl
      k_steps
      rename Fr _ _ _ _ => F8
      rename News _ _ _ _ => N8
      refine unhold (ListComp_WT F8 (by with_unfolding_all rfl) (by decide) rfl (by decide) rfl ?_)
      k_steps
      refine unhold (srcStr rfl F8 N8 ?_ ?_ fun h9 => ?_)
      · rw [txt_cps, List.all_toArray]; exact List.all_eq_true.mpr fun c hc => decide_eq_true (lt_of_good (hvc c hc))
      · rw [txt_size]; simp only [sizeLine]; omega
      clear F8 N8
      refine compRestT_of (n := (txt v).cps.size) (fun i ys nw => StrsAre ys (oddOf (v.take i)) ∧ nw = _) ?_ ?_ (txt v).cps.size 0 [] _ (by omega) ⟨.nil, rfl⟩
      · intro i ys nw hi hJ v9 I9 oI C9 oC D9 m2 h2 tk2 hP hC hx F5 N5 off ne
        obtain ⟨hD9, rfl⟩ := hJ
        obtain ⟨c, u9, hc, rfl⟩ := hP
        have hcv : v[i]? = some c := by rw [txt_cps, List.getElem?_toArray] at hc; exact hc
        have hcg := hvc c (List.mem_of_getElem? hcv)
        have hsb := sign_bare c (lt_of_good hcg) hcg
        have hot := oddOf_take hcv
        k_steps
        · have hal := ‹Txt.isalnum ⟨#[c]⟩ = true›
          rw [hal, Bool.true_or] at hsb
          rename Fr _ _ _ _ => F6
          rename News _ _ _ _ => N6
          refine LCg.CompEnd.intro F6 N6 _ (fun q hq => hq) off trivial ⟨?_, rfl⟩
          rw [hot, if_pos hsb.symm, List.append_nil]; exact hD9
        · have hal := ‹Txt.isalnum ⟨#[c]⟩ = false›
          have hin := ‹(Builtin.Str.occurrences (Str.ofString "+-") ⟨#[c]⟩ 0 (Str.ofString "+-").length 1).isEmpty = true›
          rw [hal, hin] at hsb
          rename Fr _ _ _ _ => F6
          rename News _ _ _ _ => N6
          refine LCg.CompEnd.intro F6 N6 _ (fun q hq => hq) off trivial ⟨?_, rfl⟩
          rw [hot, if_neg (by rw [← hsb]; decide)]; exact strsAre_push hD9 _ _
        · have hal := ‹Txt.isalnum ⟨#[c]⟩ = false›
          have hin := ‹(Builtin.Str.occurrences (Str.ofString "+-") ⟨#[c]⟩ 0 (Str.ofString "+-").length 1).isEmpty = false›
          rw [hal, hin, show (false || !false) = true from rfl] at hsb
          rename Fr _ _ _ _ => F6
          rename News _ _ _ _ => N6
          refine LCg.CompEnd.intro F6 N6 _ (fun q hq => hq) off trivial ⟨?_, rfl⟩
          rw [hot, if_pos hsb.symm, List.append_nil]; exact hD9
      · intro ys nw hJ D' h' tk' F' N' o1'
        obtain ⟨hD9, rfl⟩ := hJ
        rw [txt_size, List.take_length] at hD9
        k_steps
        rename News _ _ _ _ => N9
        refine unhold (eq_empty N9 (by k_mem) hD9 (by k_mem) (oddOf_ok hvc) (by show un + 64 < cLine; omega) (fun hbo => ?_) (fun hbo => ?_))
        · have hb : bareV v = true := oddOf_nil.mp hbo
          have hfm : txt k ++ Str.ofString "=" ++ txt v = txt (pairText (k, some v)) := by
            rw [eq_txt, txt_cat, txt_cat]
            simp [pairText, hb]
          k_steps
          rename Fr _ _ _ _ => F8
          rename News _ _ _ _ => N8
          replace N8 : News s.heap L _ ((pa, W.listOf (List.toArray pits) np) :: own) := newsSub N8 (by intro q hq; first | exact hq | exact .tail _ hq | exact .tail _ (.tail _ hq) | exact .tail _ (.tail _ (.tail _ hq)))
          refine unhold (append_top F8 N8 hne (fun h10 F15 N15 => ?_) hsz9)
          clear F8 N8
          rw [List.push_toArray] at N15
          k_steps
          exact fin hfm rfl F15 N15 rfl
        · have hb : ¬ bareV v = true := fun e => hbo (oddOf_nil.mpr e)
          have hfm : txt k ++ Str.ofString "=\"" ++ txt v ++ Str.ofString "\"" = txt (pairText (k, some v)) := by
            rw [show Str.ofString "=\"" = txt [61, 34] from by decide +kernel, quo_txt, txt_cat, txt_cat, txt_cat]
            simp [pairText, hb]
          k_steps
          rename Fr _ _ _ _ => F8
          rename News _ _ _ _ => N8
          replace N8 : News s.heap L _ ((pa, W.listOf (List.toArray pits) np) :: own) := newsSub N8 (by intro q hq; first | exact hq | exact .tail _ hq | exact .tail _ (.tail _ hq) | exact .tail _ (.tail _ (.tail _ hq)))
          refine unhold (append_top F8 N8 hne (fun h10 F15 N15 => ?_) hsz9)
          clear F8 N8
          rw [List.push_toArray] at N15
          k_steps
          exact fin hfm rfl F15 N15 rfl
  · intro h' tk' m' news' F' N' hJ
    obtain ⟨pa, pits, np, e1, rfl, hDa⟩ := hJ
    rw [canon1 e1] at F'
    clear F2 N2
    have hpv : vs.length = r.length := by have := hDs.length; simpa using this
    rw [hpv, List.take_length] at hDa
    have hrl := hs.1
    have hgl : (List.map (fun y : Str => y.length) (r.map fun p => txt (pairText p))).sum ≤ r.length * 40 := by
      have := StrLaws.sumLen_le (B := 40) (r.map fun p => txt (pairText p)) (by
        intro y hy
        obtain ⟨p, hp, rfl⟩ := List.mem_map.mp hy
        rw [txt_len]
        exact small_pair (hs.2 p hp))
      simpa using this
    k_steps
    rename News _ _ _ _ => N7
    refine unhold (join_listC (items := List.toArray pits) ⟨_, News.get N7 (by k_mem), rfl, _, rfl⟩ hDa (by decide) (by rw [List.length_map]; omega) fun t9 k9 => ?_)
    rw [joinRow]
    k_steps
    exact ret _ _ _ (Fr.keep (by assumption))
end
end Mine
end
section
open PySem PySem.W PyProof.Rows PySem.Calls
set_option maxRecDepth 100000
set_option maxHeartbeats 0
set_option linter.unusedVariables false
namespace Mine
section
variable {G B h h' : Heap} {L : Addr} {m : Str → Option Value} {M made : Led} {p1 p2 : Array Value}
abbrev OffT (M : Led) (I C D : Addr) : Prop := ∀ q ∈ M, (q.1 ≠ 72 ∧ q.1 ≠ 89) ∧ q.1 ≠ I ∧ q.1 ≠ C ∧ q.1 ≠ D
/-- a turn's end behind a call that keeps all -/
theorem endMade {I C D : Addr} {oI oC : Obj} {ys : List Value} {d : Dat} {v : Value} {s₁ : Shared} {tk : Nat} (F : Fr B L h m) (N : News B L h ((I, oI) :: (C, oC) :: (D, LCg.lst ys) :: tabs p1 p2 M)) (t1 : TriplesOk p1.toList) (t2 : TriplesOk p2.toList) (hM : OffT M I C D) (k : Kp h h') (hf : Fresh h h' made) (hD : DatIn made v d) :
    EndT B L m s₁ I oI C oC D ys M d v { s₁ with heap := h', toks := tk } := by
  obtain ⟨F', N', ne⟩ := addMade F N k hf
  refine ⟨h', tk, made ++ M, p1, p2, rfl, F', newsSub N' ?_, t1, t2, ?_, fun q hq => List.mem_append_right _ hq, hD.mono fun q hq => List.mem_append_left _ hq⟩
  · intro q hq
    simp only [List.mem_cons, List.mem_append] at hq ⊢
    rcases hq with a | a | a | a | a | a | a
    · exact .inr (.inl a)
    · exact .inr (.inr (.inl a))
    · exact .inr (.inr (.inr (.inl a)))
    · exact .inr (.inr (.inr (.inr (.inl a))))
    · exact .inr (.inr (.inr (.inr (.inr (.inl a)))))
    · exact .inl a
    · exact .inr (.inr (.inr (.inr (.inr (.inr a)))))
  · intro q hq
    rcases List.mem_append.mp hq with hq | hq
    · exact ⟨⟨ne q hq _ (.tail _ (.tail _ (.tail _ (.head _)))), ne q hq _ (.tail _ (.tail _ (.tail _ (.tail _ (.head _)))))⟩, ne q hq _ (.head _), ne q hq _ (.tail _ (.head _)), ne q hq _ (.tail _ (.tail _ (.head _)))⟩
    · exact hM q hq
/-- a call that changes the tables, in a turn -/
theorem turn2 {I C D : Addr} {oI oC : Obj} {ys : List Value} (F : Fr B L h m) (N : News B L h ((I, oI) :: (C, oC) :: (D, LCg.lst ys) :: tabs p1 p2 M)) (hM : OffT M I C D) (ne : @Ne Nat 72 I ∧ @Ne Nat 72 C ∧ @Ne Nat 72 D ∧ @Ne Nat 89 I ∧ @Ne Nat 89 C ∧ @Ne Nat 89 D) (hB1 : B.get? 72 = none) (hB2 : B.get? 89 = none) (S : Sits G h') (k : Kp2 h h') (hf : Fresh h h' made) :
    Fr B L h' m ∧ ∃ p1' p2', News B L h' ((I, oI) :: (C, oC) :: (D, LCg.lst ys) :: tabs p1' p2' (made ++ M)) ∧ TriplesOk p1'.toList ∧ TriplesOk p2'.toList ∧ OffT (made ++ M) I C D := by
  obtain ⟨e1, e2, e3, e4, e5, e6⟩ := ne
  have N' : News B L h (tabs p1 p2 ((I, oI) :: (C, oC) :: (D, LCg.lst ys) :: M)) := newsSub N (by
    intro q hq
    simp only [List.mem_cons] at hq ⊢
    rcases hq with a | a | a | a | a | a
    · exact .inr (.inr (.inr (.inl a)))
    · exact .inr (.inr (.inr (.inr (.inl a))))
    · exact .inl a
    · exact .inr (.inl a)
    · exact .inr (.inr (.inl a))
    · exact .inr (.inr (.inr (.inr (.inr a)))))
  have A' : Apart ((I, oI) :: (C, oC) :: (D, LCg.lst ys) :: M) := by
    intro q hq
    rcases List.mem_cons.mp hq with rfl | hq
    · exact ⟨Ne.symm e1, Ne.symm e4⟩
    rcases List.mem_cons.mp hq with rfl | hq
    · exact ⟨Ne.symm e2, Ne.symm e5⟩
    rcases List.mem_cons.mp hq with rfl | hq
    · exact ⟨Ne.symm e3, Ne.symm e6⟩
    · exact (hM q hq).1
  obtain ⟨F', q1, q2, N2, u1, u2, ne⟩ := addMade2 F N' A' hB1 hB2 S k hf
  refine ⟨F', q1, q2, newsSub N2 ?_, u1, u2, ?_⟩
  · intro q hq
    simp only [List.mem_cons, List.mem_append] at hq ⊢
    rcases hq with a | a | a | a | a | a | a
    · exact .inr (.inr (.inr (.inl a)))
    · exact .inr (.inr (.inr (.inr (.inl a))))
    · exact .inr (.inr (.inr (.inr (.inr (.inl a)))))
    · exact .inl a
    · exact .inr (.inl a)
    · exact .inr (.inr (.inl a))
    · exact .inr (.inr (.inr (.inr (.inr (.inr a)))))
  · intro q hq
    rcases List.mem_append.mp hq with hq | hq
    · exact ⟨⟨ne q hq _ (.head _), ne q hq _ (.tail _ (.head _))⟩, ne q hq _ (.tail _ (.tail _ (.head _))), ne q hq _ (.tail _ (.tail _ (.tail _ (.head _)))), ne q hq _ (.tail _ (.tail _ (.tail _ (.tail _ (.head _)))))⟩
    · exact hM q hq
/-- a turn's end with no new thing -/
theorem endOld {I C D : Addr} {oI oC : Obj} {ys : List Value} {d : Dat} {v : Value} {s₁ : Shared} {tk : Nat} {M0 : Led} (F : Fr B L h m) (N : News B L h ((I, oI) :: (C, oC) :: (D, LCg.lst ys) :: tabs p1 p2 M)) (t1 : TriplesOk p1.toList) (t2 : TriplesOk p2.toList) (hM : OffT M I C D) (hs : ∀ q ∈ M0, q ∈ M) (hD : DatIn M v d) :
    EndT B L m s₁ I oI C oC D ys M0 d v { s₁ with heap := h, toks := tk } :=
  ⟨h, tk, M, p1, p2, rfl, F, N, t1, t2, hM, hs, hD⟩
theorem sitsOf3 {I C D : Addr} {oI oC : Obj} {ys : List Value} (kG : Kp G B) (F : Fr B L h m) (N : News B L h ((I, oI) :: (C, oC) :: (D, LCg.lst ys) :: tabs p1 p2 M)) (t1 : TriplesOk p1.toList) (t2 : TriplesOk p2.toList) : Sits G h :=
  ⟨kpOf kG F, ⟨p1, (N _ (.tail _ (.tail _ (.tail _ (.head _))))).1, t1⟩, ⟨p2, (N _ (.tail _ (.tail _ (.tail _ (.tail _ (.head _)))))).1, t2⟩⟩
end
end Mine
end
section
open PySem PySem.W PyProof.Rows PySem.Calls
set_option maxRecDepth 100000
set_option maxHeartbeats 0
set_option linter.unusedVariables false
namespace Mine
theorem datAll_rev {M : Led} : ∀ {vs : List Value} {ds : List Dat}, DatAll M vs ds → DatAll M vs.reverse ds.reverse
  | _, _, .nil => .nil
  | _, _, .cons h r => by
    rw [List.reverse_cons, List.reverse_cons]
    exact (datAll_rev r).append (.one h)
/-- a turn's end with one new list -/
theorem endNew {B h : Heap} {L : Addr} {m : Str → Option Value} {M : Led} {p1 p2 : Array Value} {I C D D8 : Addr} {oI oC : Obj} {ys zs : List Value} {n : Nat} {ds : List Dat} {s₁ : Shared} {tk : Nat} (F : Fr B L h m) (N : News B L h ((D8, W.listOf zs.toArray n) :: (I, oI) :: (C, oC) :: (D, LCg.lst ys) :: tabs p1 p2 M)) (t1 : TriplesOk p1.toList) (t2 : TriplesOk p2.toList) (hM : OffT M I C D) (lt : ∀ q ∈ ((I, oI) :: (C, oC) :: (D, LCg.lst ys) :: tabs p1 p2 M), q.1 < D8) (hD : DatAll M zs ds) :
    EndT B L m s₁ I oI C oC D ys M (.list ds) (.ref D8) { s₁ with heap := h, toks := tk } := by
  have ne : ∀ q ∈ ((I, oI) :: (C, oC) :: (D, LCg.lst ys) :: tabs p1 p2 M), D8 ≠ q.1 := fun q hq => Nat.ne_of_gt (lt q hq)
  refine ⟨h, tk, (D8, W.listOf zs.toArray n) :: M, p1, p2, rfl, F, newsSub N ?_, t1, t2, ?_, fun q hq => .tail _ hq, .list (.head _) (hD.mono fun q hq => .tail _ hq)⟩
  · intro q hq
    simp only [tabs, List.mem_cons] at hq ⊢
    rcases hq with a | a | a | a | a | a | a
    · exact .inr (.inl a)
    · exact .inr (.inr (.inl a))
    · exact .inr (.inr (.inr (.inl a)))
    · exact .inr (.inr (.inr (.inr (.inl a))))
    · exact .inr (.inr (.inr (.inr (.inr (.inl a)))))
    · exact .inl a
    · exact .inr (.inr (.inr (.inr (.inr (.inr a)))))
  · intro q hq
    rcases List.mem_cons.mp hq with e | hq
    · rw [e]
      exact ⟨⟨ne _ (.tail _ (.tail _ (.tail _ (.head _)))), ne _ (.tail _ (.tail _ (.tail _ (.tail _ (.head _)))))⟩, ne _ (.head _), ne _ (.tail _ (.head _)), ne _ (.tail _ (.tail _ (.head _)))⟩
    · exact hM q hq
section
variable {prog : Program} {w : World} {A : Around} {E : Value → Shared → Prop} {s : Shared} {B : Heap} {L : Addr} {m : Str → Option Value} {env : Env}
theorem listCompTA {elt : Expr} {x : Str} {scope : Scope} {cl : List (Str × Addr)} {Q : Flow → Shared → Prop} {y9 : Str} {M : Led} {ax : Addr} {its : List Value} {n : Nat} {p1 p2 : Array Value} (hh : A.handled = none) (F : Fr B L s.heap m) (N : News B L s.heap (tabs p1 p2 M)) (t1 : TriplesOk p1.toList) (t2 : TriplesOk p2.toList) (hM : Apart M)
    (hm : (ax, W.listOf its.toArray n) ∈ M) (hsz : its.length ≤ 1000) (fs : List Dat) (hfs : fs.length = its.length)
    (step : ∀ (i : Nat) v d ys M' p1 p2 I oI C oC D m₂ h tk, its[i]? = some v → fs[i]? = some d → LCg.NsObj oC m₂ → m₂ x = some v → Fr B L h m → News B L h ((I, oI) :: (C, oC) :: (D, LCg.lst ys) :: tabs p1 p2 M') → TriplesOk p1.toList → TriplesOk p2.toList →
      (∀ q ∈ M', (q.1 ≠ 72 ∧ q.1 ≠ 89) ∧ q.1 ≠ I ∧ q.1 ≠ C ∧ q.1 ≠ D) → (∀ q ∈ M, q ∈ M') → (@Ne Nat I C ∧ @Ne Nat I D ∧ @Ne Nat C D ∧ @Ne Nat 72 I ∧ @Ne Nat 72 C ∧ @Ne Nat 72 D ∧ @Ne Nat 89 I ∧ @Ne Nat 89 C ∧ @Ne Nat 89 D) →
      wpAny (model prog w) A (eval elt (compEnvC scope cl C env)) (EndT B L m { s with heap := h, toks := tk } I oI C oC D ys M' d) NoE { s with heap := h, toks := tk })
    (fin : ∀ h tk D ys M' p1 p2, Fr B L h (fun z => if z = y9 then some (.ref D) else m z) → News B L h (tabs p1 p2 M') → TriplesOk p1.toList → TriplesOk p2.toList → Apart M' → (∀ q ∈ M, q ∈ M') → (D, W.listOf (List.toArray ys) ys.length) ∈ M' → DatAll M' ys fs → Q .next { s with heap := h, toks := tk }) :
    LCg.CompSrc prog w A B L m env elt x scope cl (fun s₂ => LCg.FinA B L m s₂ y9 Q) (.ref ax) s := by
  refine LCg.CompSrc.ledger hh F N (its := its.toArray) (k := n) (.tail _ (.tail _ hm)) (by rw [List.size_toArray]; simp only [sizeLine]; omega) fun g => ?_
  refine compRest_of (n := its.toArray.size) (fun i ys nw => ∃ p1 p2 M', nw = tabs p1 p2 M' ∧ TriplesOk p1.toList ∧ TriplesOk p2.toList ∧ Apart M' ∧ (∀ q ∈ M, q ∈ M') ∧ DatAll M' ys (fs.take i)) ?_ ?_ its.toArray.size 0 [] _ (by omega) ⟨p1, p2, M, rfl, t1, t2, hM, fun _ h => h, .nil⟩
  · rintro i ys nw hi ⟨q1, q2, M', rfl, h1, h2, hM', hs, hD⟩ v I oI C oC D m₂ h tk hP hC hx F₁ N₁ off ne
    have hv : its[i]? = some v := by simpa using hP
    have hil : i < its.length := by simpa using hi
    have hd : fs[i]? = some (fs[i]'(by omega)) := List.getElem?_eq_getElem (by omega)
    have off' := off.mem
    obtain ⟨o1, o2, o3⟩ := off' _ (.head _)
    obtain ⟨o4, o5, o6⟩ := off' _ (.tail _ (.head _))
    refine wpAny_mono (step i v _ ys M' q1 q2 I oI C oC D m₂ h tk hv hd hC hx F₁ N₁ h1 h2 (fun q hq => ⟨hM' q hq, off' q (.tail _ (.tail _ hq))⟩) hs ⟨ne.1, ne.2.1, ne.2.2, o1, o2, o3, o4, o5, o6⟩) (fun y s₂ hE => ?_) fun _ _ e => e
    obtain ⟨h', tk', M2, r1, r2, rfl, F₂, N₂, u1, u2, hM2, hs2, hDy⟩ := hE
    refine ⟨h', tk', tabs r1 r2 M2, rfl, F₂, N₂, LCg.Off3.of fun q hq => ?_, .inr ⟨_, .tail _ (.tail _ (hs2 _ (hs _ hm))), rfl, _, rfl⟩, r1, r2, M2, rfl, u1, u2, fun q hq => (hM2 q hq).1, fun q hq => hs2 q (hs q hq), ?_⟩
    · rcases List.mem_cons.mp hq with rfl | hq
      · exact ⟨o1, o2, o3⟩
      rcases List.mem_cons.mp hq with rfl | hq
      · exact ⟨o4, o5, o6⟩
      · exact (hM2 q hq).2
    · rw [List.take_add_one, hd]
      exact (hD.mono hs2).append (.one hDy)
  · rintro ys nw ⟨q1, q2, M', rfl, h1, h2, hM', hs, hD⟩ D h' tk' F' N' o1
    rw [List.take_of_length_le (by rw [List.size_toArray]; omega)] at hD
    have e1 : ∀ q ∈ tabs q1 q2 M', q.1 ≠ D := by
      intro q hq
      have : ∀ {l : Led}, LCg.Off1 D l → ∀ q ∈ l, q.1 ≠ D := by
        intro l
        induction l with
        | nil => intro _ q hq; cases hq
        | cons a l ih =>
          intro h q hq
          rcases List.mem_cons.mp hq with rfl | hq
          · exact h.1
          · exact ih h.2 q hq
      exact this o1 q hq
    refine fin h' tk' D ys ((D, W.listOf (List.toArray ys) ys.length) :: M') q1 q2 F' ?_ h1 h2 ?_ (fun q hq => .tail _ (hs q hq)) (.head _) (hD.mono fun _ h => .tail _ h)
    · intro q hq
      rcases List.mem_cons.mp hq with rfl | hq
      · exact N' _ (.tail _ (.head _))
      rcases List.mem_cons.mp hq with rfl | hq
      · exact N' _ (.tail _ (.tail _ (.head _)))
      rcases List.mem_cons.mp hq with rfl | hq
      · exact N' _ (.head _)
      · exact N' _ (.tail _ (.tail _ (.tail _ hq)))
    · intro q hq
      rcases List.mem_cons.mp hq with rfl | hq
      · exact ⟨Ne.symm (e1 _ (.head _)), Ne.symm (e1 _ (.tail _ (.head _)))⟩
      · exact hM' q hq
end
end Mine
end
section
open PySem PySem.W PyProof.Rows PySem.Calls
set_option maxRecDepth 100000
set_option linter.unusedVariables false
namespace Mine
theorem txt_ok {l : List Nat} (h : ∀ c ∈ l, c < 128) : PyData.strOk (txt l) = true := by
  simp [PyData.strOk, txt]
  intro c hc
  have := h c hc
  omega
theorem pair_ok {p : Pr} (h : GoodP p) : kqdOk 7 (pairDat p) = true := by
  obtain ⟨k, o⟩ := p
  have hk : PyData.strOk (txt k) = true := txt_ok fun c hc => lt_of_good (good_of_bare (bare_of_let (h.kc c hc)))
  cases o with
  | none => simp [pairDat, kqdOk, hk]
  | some v =>
    have hv : PyData.strOk (txt v) = true := txt_ok fun c hc => lt_of_good ((h.v v rfl).2 c hc)
    simp [pairDat, kqdOk, hk, hv]
theorem row_ok {r : List Pr} (h : GoodR r) : kqdOk 8 (rowDat r) = true := by
  unfold rowDat
  simp only [kqdOk, List.all_eq_true]
  intro d hd
  obtain ⟨p, hp, rfl⟩ := List.mem_map.mp hd
  exact pair_ok (h.2 p hp)
theorem rows_ok {l : List (List Pr)} (h : ∀ r ∈ l, GoodR r) : ∀ d ∈ l.map rowDat, kqdOk 8 d = true := by
  intro d hd
  obtain ⟨r, hr, rfl⟩ := List.mem_map.mp hd
  exact row_ok (h r hr)
theorem good_rev {r : List Pr} (h : GoodR r) : GoodR r.reverse := ⟨fun e => h.1 (List.reverse_eq_nil_iff.mp e), fun p hp => h.2 p (List.mem_reverse.mp hp)⟩
theorem small_rev {r : List Pr} (h : r.length ≤ 16 ∧ ∀ p ∈ r, SmallP p) : r.reverse.length ≤ 16 ∧ ∀ p ∈ r.reverse, SmallP p := ⟨by rw [List.length_reverse]; exact h.1, fun p hp => h.2 p (List.mem_reverse.mp hp)⟩
theorem small_rows : ∀ {l : List (List Pr)}, (∀ r ∈ l, r.length ≤ 16 ∧ ∀ p ∈ r, SmallP p) → (restRows l).length ≤ l.length * 702
  | [], _ => by simp [restRows]
  | r :: l, h => by
    have h1 := small_row (h r (.head _)).2 (h r (.head _)).1
    have h2 := small_rows (l := l) fun q hq => h q (.tail _ hq)
    simp [restRows]; omega
theorem small_head {l : List (List Pr)} (h : ∀ r ∈ l, r.length ≤ 16 ∧ ∀ p ∈ r, SmallP p) : (headText l).length ≤ l.length * 702 := by
  cases l with
  | nil => simp [headText]
  | cons r l =>
    have h1 := small_row (h r (.head _)).2 (h r (.head _)).1
    have h2 := small_rows (l := l) fun q hq => h q (.tail _ hq)
    simp [headText]; omega
theorem mode_range (x : Int) : 0 ≤ (x.fdiv 2).fmod 4096 ∧ (x.fdiv 2).fmod 4096 < 4096 := by
  rw [Int.fmod_eq_emod_of_nonneg _ (by decide)]; omega
theorem ba_zero (y : Int) : Builtin.bitAnd y 0 = 0 := by
  unfold Builtin.bitAnd; cases y <;> simp
theorem emod_two (y m : Int) (hm : 0 < m) : 2 * (y / 2 % m) + y % 2 = y % (2 * m) := by
  have h1 := Int.emod_add_mul_ediv (y / 2) m
  have h2 := Int.emod_nonneg (y / 2) (Int.ne_of_gt hm)
  have h3 := Int.emod_lt_of_pos (y / 2) hm
  refine ((Int.ediv_emod_unique (a := y) (q := y / 2 / m) (by omega)).mpr ⟨?_, by omega, by omega⟩).2.symm
  rw [Int.mul_assoc]
  generalize m * (y / 2 / m) = z at *
  omega
theorem ba_mask : ∀ (n : Nat) (y : Int), Builtin.bitAnd y (2 ^ n - 1) = y % 2 ^ n
  | 0, y => by rw [Int.pow_zero, Int.sub_self, ba_zero, Int.emod_one]
  | n + 1, y => by
    rw [show (2 : Int) ^ (n + 1) - 1 = 2 * (2 ^ n - 1) + 1 by rw [Int.pow_succ]; omega, ba_odd, ba_mask n, Int.pow_succ, Int.mul_comm (2 ^ n) 2]
    exact emod_two y _ (Int.pow_pos (by decide))
theorem mode_low (x : Int) : Builtin.bitAnd (modeOf x) 4095 = (x.fdiv 2).fmod 4096 := by
  have h := mode_range x
  unfold modeOf
  generalize (x.fdiv 2).fmod 4096 = r at *
  rw [show Builtin.bitAnd _ 4095 = _ % 4096 from ba_mask 12 _]
  split <;> omega
theorem mode_high (x : Int) : Builtin.bitAnd (modeOf x) 61440 = if x.fmod 2 = 0 then 16384 else 32768 := by
  have h := mode_range x
  unfold modeOf
  generalize (x.fdiv 2).fmod 4096 = r at *
  rw [show (61440 : Int) = 2 ^ 12 * 15 by decide, ba_shift]
  have e : ((if x.fmod 2 = 0 then (16384 : Int) else 32768) + r) / 2 ^ 12 = if x.fmod 2 = 0 then 4 else 8 := by
    rw [show (2 : Int) ^ 12 = 4096 by decide]
    split <;> omega
  rw [e]
  split <;> decide
end Mine
end
section
open PySem PySem.W PyProof.Rows PySem.Calls
set_option maxRecDepth 100000
set_option maxHeartbeats 0
set_option rowWalk.seconds 0
set_option linter.unusedVariables false
namespace Mine
section
variable {w : World} {A : Around} {E : Value → Shared → Prop} {s : Shared} {p : Program} {loose : List Str} {mean : ExcName → Option Value} {mg mb : Str → Option Value} {Q : Value → Shared → Prop}
local macro_rules | `(tactic| walk_at "eval ListComp") => `(tactic| (refine hold ?_))
local macro_rules | `(tactic| walk_at "CompSrc") => `(tactic| (refine hold ?_))
local macro_rules | `(tactic| walk_at "call ref") => `(tactic| (refine hold ?_))
local macro_rules | `(tactic| walk_at "call builtin:str.join") => `(tactic| (refine hold ?_))
local macro_rules | `(tactic| walk_at "compareOp NotEq ref ref") => `(tactic| (refine hold ?_))
local macro_rules | `(tactic| walk_at "compareOp Eq ref ref") => `(tactic| (refine hold ?_))
local macro_rules | `(tactic| walk_at "compareOp NotEq str str") => `(tactic| (refine hold ?_))
local macro_rules | `(tactic| walk_at "compareOp NotEq bytes bytes") => `(tactic| (refine hold ?_))
local macro_rules | `(tactic| walk_at "subscriptTail Name Slice ref ref") => `(tactic| (refine hold ?_))
local macro_rules | `(tactic| walk_at "call type:zip") => `(tactic| (refine hold ?_))
local macro_rules | `(tactic| walk_at "exec For Tuple Call cons nil") => `(tactic| (refine hold ?_))
local macro_rules | `(tactic| walk_at "eval Call Name") => `(tactic| ((with_reducible show wpAny _ _ (eval (Expr.Call (Expr.Name _ _) _ [] _) _) _ _ _); refine Call_ ?_))
theorem strs_of2 {made : List (Addr × Obj)} {f : List Pr → Str} : ∀ {vs : List Value} {rs : List (List Pr)}, DatAll made vs (rs.map fun r => Dat.str (f r)) → StrsAre vs (rs.map f) := by
  intro vs rs
  induction rs generalizing vs with
  | nil => intro h; cases h; exact .nil
  | cons r rs ih =>
    intro h
    cases h with
    | cons a h => cases a; exact .cons _ _ (ih h)
theorem strs_of {made : List (Addr × Obj)} {vs : List Value} {rs : List (List Pr)} (h : DatAll made vs (rs.map fun r => Dat.str (txt (rowText r)))) : StrsAre vs (rs.map fun r => txt (rowText r)) := strs_of2 h
local macro_rules | `(tactic| walk_at "exec Assign cons ListComp") => `(tactic| (refine hold ?_))
theorem row_second {M : Led} {y : Value} {n : Int} (h : DatIn M y (rowDat (rowL n))) : ∃ ry v0 vt n0 a2 t u n2, y = .ref ry ∧ (ry, W.listOf (List.toArray (v0 :: .ref a2 :: vt)) n0) ∈ M ∧ (a2, tup2 (.str (txt dataK) t) (.str (txt (sixL (octs n))) u) n2) ∈ M := by
  unfold rowDat rowL at h
  obtain ⟨ry, vs, n0, rfl, hm, hD⟩ := datList h
  cases hD with
  | cons h0 hD =>
    cases hD with
    | cons h1 hD =>
      obtain ⟨a2, t, x, n2, rfl, hm2, _, hx⟩ := datPair h1
      obtain ⟨u, rfl⟩ := hx _ rfl
      exact ⟨_, _, _, _, _, _, _, _, rfl, hm, hm2⟩
theorem flat_sing {α : Type} : ∀ l : List α, (l.map fun r => [r]).flatten = l
  | [] => rfl
  | a :: l => by rw [List.map_cons, List.flatten_cons, flat_sing l]; rfl
theorem ne_iib {prog : Program} {B : Heap} {L a b : Addr} {news : Led} {x y x' y' : Int} {z z' : Bool} {t1 t2 u1 u2 : Tok} {n1 n2 : Nat} (N : News B L s.heap news) (ma : (a, W.listOf #[.int x t1, .int y t2, .bool z] n1) ∈ news) (mb : (b, W.listOf #[.int x' u1, .int y' u2, .bool z'] n2) ∈ news) (e1 : x = x') (e2 : y = y') (e3 : z = z') (hu : A.units + 64 < cLine) (h : Q (.bool false) s) : wpAny (model prog w) A (compareOp .NotEq (.ref a) (.ref b)) Q E s := by
  subst e1 e2 e3
  refine ne_dataH (reads_list_at (N.get ma) rfl rfl (xs := [.int x, .int y, .bool z]) (.cons (.int _ _) (.cons (.int _ _) (.cons (.bool _) .nil)))) (reads_list_at (N.get mb) rfl rfl (xs := [.int x, .int y, .bool z]) (.cons (.int _ _) (.cons (.int _ _) (.cons (.bool _) .nil)))) rfl rfl hu ?_
  simpa [PyData.eqv, PyData.eqvAll] using h
theorem ne_bytes_same {prog : Program} {b : Array UInt8} {t u : Tok} (h : Q (.bool false) s) : wpAny (model prog w) A (compareOp .NotEq (.bytes b t) (.bytes b u)) Q E s := by
  refine ne_bytes ?_
  simpa using h
theorem byteArr_size (ns : List Int) : (byteArr ns).size = ns.length := by simp [byteArr]
theorem ne_str_same {prog : Program} {x : Str} {t u : Tok} (h : Q (.bool false) s) : wpAny (model prog w) A (compareOp .NotEq (.str x t) (.str x u)) Q E s := by
  refine ne_str ?_
  simpa using h
theorem addMade3 {G B h h' : Heap} {L : Addr} {m : Str → Option Value} {M made : Led} {p1 p2 : Array Value} (F : Fr B L h m) (N : News B L h (tabs p1 p2 M)) (hM : Apart M) (hB1 : B.get? 72 = none) (hB2 : B.get? 89 = none) (S : Sits G h') (k : Kp2 h h') (hf : Fresh h h' made) :
    Fr B L h' m ∧ ∃ p1' p2', News B L h' (tabs p1' p2' (made ++ M)) ∧ TriplesOk p1'.toList ∧ TriplesOk p2'.toList ∧ Apart (made ++ M) := by
  obtain ⟨F', q1, q2, N', u1, u2, ne⟩ := addMade2 F N hM hB1 hB2 S k hf
  refine ⟨F', q1, q2, N', u1, u2, fun q hq => ?_⟩
  rcases List.mem_append.mp hq with hq | hq
  · exact ⟨ne q hq _ (.head _), ne q hq _ (.tail _ (.head _))⟩
  · exact hM q hq
theorem c_law {G : Heap} (g : Ghost (Mine.hd.heap_1 w.params) p loose mean mg mb G) (S : Sits G s.heap) (R : Ready (Mine.hd.heap_1 w.params) p loose mean mg mb A 9 s.heap) {sv : Addr} {vs : List Value} {ns : List Int} (hl : s.heap.IsList sv vs.toArray) (hi : IntsAre vs ns) (hb : ns.length ≤ 63)
    (ret : ∀ h' tk, Sits G h' → Q (.bool true) { s with heap := h', toks := tk }) :
    On PySem.Challenge.rw_qh0025_01 Mine.hd.heap_1 (wpAny (model prog w) A (call (.ref 284) [.ref sv]) Q E s) := by
  k_fill
  unfold On
  k_dflt (refine' enter (n := 8) R ?k6 ?k7 ?k9 ?kB ?_ ?c2 ?c3 ?c4 ?c5; (case k6 => k_is); (case k7 => k_is); (case k9 => exact BindsTo.of_eq rfl); (case c5 => decide); (case kB => exact locs rfl); (case c2 => exact rfl); (case c3 => exact rfl); (case c4 => exact rfl))
  intro dp fr gd un L h1 hdp hun R1 F0 N0 X0 T0
  obtain ⟨p1, hP1, t1⟩ := S.t1
  obtain ⟨p2, hP2, t2⟩ := S.t2
  have kG : Kp G (hideAll s.heap [72, 89]) := hide_kp S.k (by
    intro b hb
    rcases List.mem_cons.mp hb with h | h
    · rw [h]; exact g.n1
    · rw [List.mem_singleton.mp h]; exact g.n2)
  have F1 := hide_fr (ts := [72, 89]) F0
  have X1 := g.X.keeps kG
  have T1 := g.T.keeps kG
  have hl1 : (hideAll s.heap [72, 89]).IsList sv vs.toArray := by
    obtain ⟨o, ho, hc, r⟩ := hl
    refine ⟨o, hideAll_get _ ho (fun hm => ?_), hc, r⟩
    rcases List.mem_cons.mp hm with h | h
    · rw [h, hP1] at ho; cases ho; cases hc
    · rw [List.mem_singleton.mp h, hP2] at ho; cases ho; cases hc
  have hB1 : (hideAll s.heap [72, 89]).get? 72 = none := hideAll_none _ (.head _)
  have hB2 : (hideAll s.heap [72, 89]).get? 89 = none := hideAll_none _ (.tail _ (.head _))
  have N1 : News (hideAll s.heap [72, 89]) L h1 [(72, tabObj p1), (89, tabObj p2)] := by
    intro q hq
    rcases List.mem_cons.mp hq with h | h
    · rw [h]; exact ⟨F0.keep _ _ hP1, Nat.ne_of_lt (Nat.lt_of_lt_of_le (Heap.lt_size hP1) F0.above), hB1⟩
    · rw [List.mem_singleton.mp h]; exact ⟨F0.keep _ _ hP2, Nat.ne_of_lt (Nat.lt_of_lt_of_le (Heap.lt_size hP2) F0.above), hB2⟩
  have R2 : ∀ h', Kp (hideAll s.heap [72, 89]) h' → Ready (Mine.hd.heap_1 w.params) p loose mean mg mb ⟨none, dp, fr, gd, un⟩ 8 h' := fun h' k => ⟨X1.keeps k, T1.keeps k, hdp, hun, rfl⟩
  clear F0 N0 X0 T0 R1 R S hP1 hP2 hl
  generalize hideAll s.heap [72, 89] = B at *
  (try dsimp only)
  k_steps
  rename Fr _ _ _ _ => F2
  rename News _ _ _ _ => N2
  have hzz : vs.toArray.size ≤ sizeLine := by rw [List.size_toArray, hi.length]; simp only [sizeLine]; omega
  refine unhold (kmk_slice_ints F2 N2 (Fr.lst F2 hl1) .none (.int _ _) hi (kmk_upto hi (by decide)) (List.length_take ..) (fun D' ws' h' F' N' l1 hI' hC' hL' => ?_) (by with_unfolding_all rfl) (by kmk_pure) hzz)
  change IntsAre _ (List.take 4 ns) at hI'
  clear F2 N2 hC' hL'
  (try k_lt l1)
  (try dsimp only)
  k_steps
  refine unhold ?_
  rename News _ _ _ _ => N2
  rename Fr _ _ _ _ => F2
  rename IntsAre _ (List.take 4 ns ++ _) => hI
  have hn8 : (List.take 4 ns ++ [308, 11, 3, 7101]).length ≤ 8 := by rw [List.length_append, List.length_take]; simp; omega
  have hn0 : (List.take 4 ns ++ [308, 11, 3, 7101]) ≠ [] := by simp
  rename _ < _ ∧ _ < _ ∧ 72 < _ ∧ 89 < _ => l2
  generalize hnum : List.take 4 ns ++ [308, 11, 3, 7101] = nums at *
  rename_i D ws h9 h8
  obtain ⟨m1, em1, F3⟩ : ∃ m1 : Str → Option Value, m1 (Str.ofString "numbers") = some (.ref D) ∧ Fr B L h8 m1 := ⟨_, rfl, F2⟩
  rw [canon1 em1] at F3
  have N3 : News B L h8 (tabs p1 p2 [(D, W.listOf ws.toArray 0)]) := newsSub N2 (by
    intro q hq
    simp only [tabs, List.mem_cons, List.not_mem_nil, or_false] at hq
    rcases hq with rfl | rfl | rfl <;> k_mem)
  have A3 : Apart [(D, W.listOf ws.toArray 0)] := by
    intro q hq
    rw [List.mem_singleton.mp hq]
    exact ⟨Nat.ne_of_gt l2.2.2.1, Nat.ne_of_gt l2.2.2.2⟩
  have hwl : ws.length = nums.length := hI.length
  clear F2 N2 l2
  refine LCg.ListComp_U F3 (by with_unfolding_all rfl) (by decide) rfl (by decide) rfl ?_
  k_steps
  refine unhold (listCompT (M := [(D, W.listOf ws.toArray 0)]) rfl F3 N3 t1 t2 A3 (.head _) (by omega) (nums.map fun x => rowDat (rowL x)) (by rw [List.length_map]; omega) ?_ ?_)
  · intro i v d ys M' q1 q2 I oI C oC D2 m2 h tk hv hd hC hx F4 N4 u1 u2 hM4 hs4 ne
    obtain ⟨x, t, hxn, rfl⟩ := IntsAre.at' hI hv
    rw [List.getElem?_map, hxn] at hd
    cases hd
    k_steps
    refine unhold (off (c_law_row ((R2 _ (Fr.keep (by k_asm))).less (by omega)) fun v h' tk made k9 hf hD => ?_))
    exact endMade F4 N4 u1 u2 hM4 k9 hf hD
  intro h tk D1 ys1 M1 p1 p2 F4 N4 t1 t2 A4 hs4 hm4 hd4
  clear F3 N3 A3
  k_steps
  refine unhold (LCg.ListComp_U F4 (by with_unfolding_all rfl) (by decide) rfl (by decide) rfl ?_)
  k_steps
  refine unhold (listCompT (M := M1) rfl F4 N4 t1 t2 A4 (hs4 _ (.head _)) (by omega) (nums.map fun x => rowDat (rowL x)) (by rw [List.length_map]; omega) ?_ ?_)
  · intro i v d ys M' q1 q2 I oI C oC D2 m2 h tk hv hd hC hx F4 N4 u1 u2 hM4 hs4 ne
    obtain ⟨x, t, hxn, rfl⟩ := IntsAre.at' hI hv
    rw [List.getElem?_map, hxn] at hd
    cases hd
    k_steps
    refine unhold (off (c_law_due ((R2 _ (Fr.keep (by k_asm))).less (by omega)) fun v h' tk made k9 hf hD => ?_))
    exact endMade F4 N4 u1 u2 hM4 k9 hf hD
  intro h tk D2 ys2 M2 p1 p2 F5 N5 t1 t2 A5 hs5 hm5 hd5
  replace hm4 := hs5 _ hm4
  replace hd4 := hd4.mono hs5
  have hmD := hs5 _ (hs4 _ (.head _))
  clear F4 N4 A4 hs4 hs5
  k_steps
  rename Fr _ _ _ _ => F6
  rename News _ _ _ _ => N6
  obtain ⟨m2, e2n, e2r, e2d, F6⟩ : ∃ m2 : Str → Option Value, m2 (Str.ofString "numbers") = some (.ref D) ∧ m2 (Str.ofString "rows") = some (.ref D1) ∧ m2 (Str.ofString "due") = some (.ref D2) ∧ Fr B L _ m2 := ⟨_, rfl, rfl, rfl, F6⟩
  rw [canon3 e2n e2r e2d] at F6
  replace N6 : News B L _ (tabs p1 p2 M2) := newsSub N6 (fun q hq => .tail _ hq)
  rw [show (nums.map fun x => rowDat (rowL x)) = (nums.map rowL).map rowDat from by rw [List.map_map]; rfl] at hd4 hd5
  have hrows : ∀ (i : Nat) (r : List Pr), (nums.map rowL)[i]? = some r → ∃ x, nums[i]? = some x ∧ r = rowL x := by
    intro i r h
    rw [List.getElem?_map] at h
    cases hx : nums[i]? with
    | none => rw [hx] at h; cases h
    | some x => rw [hx] at h; cases h; exact ⟨x, rfl, rfl⟩
  have hgR : ∀ r ∈ nums.map rowL, GoodR r := by
    intro r hr
    obtain ⟨x, _, rfl⟩ := List.mem_map.mp hr
    exact rowL_good x
  have hsR : ∀ r ∈ nums.map rowL, r.length ≤ 16 ∧ ∀ p ∈ r, SmallP p := by
    intro r hr
    obtain ⟨x, _, rfl⟩ := List.mem_map.mp hr
    exact rowL_small x
  have hr8 : (nums.map rowL).length = nums.length := List.length_map ..
  have hr0 : nums.map rowL ≠ [] := fun e => hn0 (List.map_eq_nil_iff.mp e)
  generalize nums.map rowL = rows at *
  have hx1 : DatIn M2 (.ref D1) (.list (rows.map rowDat)) := .list hm4 hd4
  have hx2 : DatIn M2 (.ref D2) (.list (rows.map rowDat)) := .list hm5 hd5
  refine unhold (off (c_join g (sitsOf kG F6 N6 t1 t2) ((R2 _ (Fr.keep (by k_asm))).less (by omega)) (fun q hq => (N6 q (.tail _ (.tail _ hq))).1) hx1 hgR hsR (by omega) fun t h' tk' S7 k7 => ?_))
  obtain ⟨F7, q1, q2, N7, u1, u2, -⟩ := addMade2 F6 N6 A5 hB1 hB2 S7 k7 (made := []) (fun q hq => nomatch hq)
  clear F6 N6 S7 k7 t1 t2
  rw [List.nil_append] at N7
  k_steps
  refine unhold ?_
  rename Fr _ _ _ _ => F8
  rename News _ _ _ _ => N8
  refine ne_same N8 (hx1.mono fun q hq => .tail _ (.tail _ hq)) (hx2.mono fun q hq => .tail _ (.tail _ hq)) (rows_ok hgR) (by show un + 64 < cLine; omega) ?_
  k_steps
  refine unhold (LCg.ListComp_U F8 (by with_unfolding_all rfl) (by decide) rfl (by decide) rfl ?_)
  k_steps
  have hl1y : ys1.length = rows.length := by have := hd4.length; simpa using this
  have hl2y : ys2.length = rows.length := by have := hd5.length; simpa using this
  refine unhold (listCompT (M := M2) rfl F8 N8 u1 u2 A5 hm5 (by omega) (rows.map fun r => Dat.str (txt (rowText r))) (by rw [List.length_map]; omega) ?_ ?_)
  · intro i v d ys M' q1 q2 I oI C oC D2 m2 h tk hv hd hC hx F4 N4 u1 u2 hM4 hs4 ne
    obtain ⟨r, hr, hdr⟩ := DatAll.at' hd5 hv
    rw [List.getElem?_map, hr] at hd
    cases hd
    have hrm := List.mem_of_getElem? hr
    k_steps
    refine unhold (off (c_law_text (fun q hq => (N4 q (.tail _ (.tail _ (.tail _ (.tail _ (.tail _ (hs4 q hq))))))).1) hdr (hgR r hrm) (hsR r hrm) ((R2 _ (Fr.keep (by k_asm))).less (by omega)) fun t h' tk k9 => ?_))
    exact endMade F4 N4 u1 u2 hM4 k9 (made := []) (fun _ h => nomatch h) (.str _ _)
  intro h tk D3 ys3 M3 p1 p2 F9 N9 t1 t2 A9 hs9 hm9 hd9
  have hst : StrsAre ys3 (rows.map fun r => txt (rowText r)) := strs_of hd9
  have hgl : (List.map (fun y : Str => y.length) (rows.map fun p => txt (rowText p))).sum ≤ rows.length * 700 := by
    have := StrLaws.sumLen_le (B := 700) (rows.map fun p => txt (rowText p)) (by
      intro y hy
      obtain ⟨p, hp, rfl⟩ := List.mem_map.mp hy
      rw [txt_len]
      exact small_row (hsR p hp).2 (hsR p hp).1)
    simpa using this
  replace hx1 := hx1.mono hs9
  replace hx2 := hx2.mono hs9
  replace hd4 := hd4.mono hs9
  replace hd5 := hd5.mono hs9
  replace hm4 := hs9 _ hm4
  replace hm5 := hs9 _ hm5
  replace hmD := hs9 _ hmD
  clear F8 N8 A5 hs9 u1 u2
  k_steps
  have hjoin := joinRows rows
  refine unhold (join_listC (items := List.toArray ys3) ⟨_, News.get N9 (.tail _ (.tail _ hm9)), rfl, _, rfl⟩ hst (by decide) (by rw [List.length_map]; omega) fun t9 k9 => ?_)
  clear hgl
  generalize Txt.join (Str.ofString ", ") (rows.map fun p => txt (rowText p)) = jt at hjoin ⊢
  subst hjoin
  k_steps
  refine unhold (ne_str_same ?_)
  k_steps
  rename Fr _ _ _ _ => F6
  rename News _ _ _ _ => N6
  obtain ⟨m3, e3n, e3r, e3d, e3h, F6⟩ : ∃ m3 : Str → Option Value, m3 (Str.ofString "numbers") = some (.ref D) ∧ m3 (Str.ofString "rows") = some (.ref D1) ∧ m3 (Str.ofString "due") = some (.ref D2) ∧ m3 (Str.ofString "header") = some (.str (txt (headText rows)) t) ∧ Fr B L _ m3 := ⟨_, rfl, rfl, rfl, rfl, F6⟩
  rw [canon4 e3n e3r e3d e3h] at F6
  have N7 : News B L _ (tabs p1 p2 M3) := newsSub N6 (fun q hq => .tail _ hq)
  have hfl : ([rows] : List (List (List Pr))).flatten = rows := by simp
  refine unhold (off (c_split (texts := [rows]) g (sitsOf kG F6 N7 t1 t2) ((R2 _ (Fr.keep (by k_asm))).less (by omega)) (News.isList N6 (.head _)) (.cons _ _ .nil) (fun t ht => by rw [List.mem_singleton.mp ht]; exact ⟨hr0, hgR⟩) (fun t ht => by rw [List.mem_singleton.mp ht]; have := small_head hsR; omega) (by rw [hfl]; omega) fun v4 h' tk' made S7 k7 hf hD => ?_))
  rw [hfl] at hD
  obtain ⟨F8, q1, q2, N8, u1, u2, A8⟩ := addMade3 F6 N7 A9 hB1 hB2 S7 k7 hf
  clear F6 N6 N7 S7 k7 A9 t1 t2
  obtain ⟨RD, ysr, nr, rfl, hmr, hdr⟩ := datList hD
  replace hx1 := hx1.mono fun q hq => List.mem_append_right made hq
  replace hx2 := hx2.mono fun q hq => List.mem_append_right made hq
  replace hd4 := hd4.mono fun q hq => List.mem_append_right made hq
  replace hd5 := hd5.mono fun q hq => List.mem_append_right made hq
  replace hm4 := List.mem_append_right made hm4
  replace hm5 := List.mem_append_right made hm5
  replace hmD := List.mem_append_right made hmD
  replace hD := hD.mono fun q hq => List.mem_append_left M3 hq
  replace hdr := hdr.mono fun q hq => List.mem_append_left M3 hq
  replace hmr := List.mem_append_left M3 hmr
  clear hm9 hd9 hst hf
  generalize made ++ M3 = M4 at *
  k_steps
  refine unhold ?_
  rename Fr _ _ _ _ => F9
  rename News _ _ _ _ => N9
  refine ne_same N9 (hD.mono fun q hq => .tail _ (.tail _ hq)) (hx2.mono fun q hq => .tail _ (.tail _ hq)) (rows_ok hgR) (by show un + 64 < cLine; omega) ?_
  k_steps
  refine unhold (LCg.ListComp_U F9 (by with_unfolding_all rfl) (by decide) rfl (by decide) rfl ?_)
  k_steps
  refine unhold (listCompT (M := M4) rfl F9 N9 u1 u2 A8 hm4 (by omega) (rows.map fun r => Dat.str (txt (headText [r]))) (by rw [List.length_map]; omega) ?_ ?_)
  · intro i v d ys M' q1 q2 I oI C oC D2 m2 h tk hv hd hC hx F4 N4 u1 u2 hM4 hs4 ne
    obtain ⟨r, hr, hdr⟩ := DatAll.at' hd4 hv
    rw [List.getElem?_map, hr] at hd
    cases hd
    have hrm := List.mem_of_getElem? hr
    k_steps
    rename Fr _ _ _ _ => F5
    rename News _ _ _ _ => N5
    have N5' : News B L _ ((I, oI) :: (C, oC) :: (D2, LCg.lst ys) :: tabs q1 q2 M') := newsSub N5 (fun q hq => .tail _ hq)
    refine unhold (off (c_join (rows := [r]) g (sitsOf3 kG F5 N5' u1 u2) ((R2 _ (Fr.keep (by k_asm))).less (by omega)) (made := (_, W.listOf #[v] 0) :: M') (fun q hq => ?_) (.list (.head _) (.cons (hdr.mono fun q hq => .tail _ (hs4 q hq)) .nil)) (fun r' hr' => by rw [List.mem_singleton.mp hr']; exact hgR r hrm) (fun r' hr' => by rw [List.mem_singleton.mp hr']; exact hsR r hrm) (by simp) fun t h' tk S7 k7 => ?_))
    · rcases List.mem_cons.mp hq with e | hq
      · rw [e]; exact (N5 _ (.head _)).1
      · exact (N5 q (.tail _ (.tail _ (.tail _ (.tail _ (.tail _ (.tail _ hq))))))).1
    obtain ⟨F7, r1, r2, N7, w1, w2, A7⟩ := turn2 F5 N5' hM4 ne.2.2.2 hB1 hB2 S7 k7 (made := []) (fun _ h => nomatch h)
    exact endOld F7 N7 w1 w2 A7 (fun q hq => hq) (.str _ _)
  intro h tk D4 ys4 M5 p1 p2 F6 N6 t1 t2 A6 hs6 hm6 hd6
  replace hx1 := hx1.mono hs6
  replace hx2 := hx2.mono hs6
  replace hdr := hdr.mono hs6
  replace hmr := hs6 _ hmr
  replace hmD := hs6 _ hmD
  replace hd5 := hd5.mono hs6
  replace hm5 := hs6 _ hm5
  clear hD hd4 hm4 hs6 F9 N9 A8 u1 u2
  k_steps
  have hst : StrsAre ys4 ((rows.map fun r => [r]).map fun t => txt (headText t)) := by
    rw [List.map_map]; exact strs_of2 hd6
  have hfl2 : (rows.map fun r => [r]).flatten = rows := flat_sing rows
  refine unhold (off (c_split (texts := rows.map fun r => [r]) g (sitsOf kG F6 N6 t1 t2) ((R2 _ (Fr.keep (by k_asm))).less (by omega)) (News.isList N6 (.tail _ (.tail _ hm6))) hst (fun t ht => ?_) (fun t ht => ?_) (by rw [hfl2]; omega) fun v4 h' tk' made S7 k7 hf hD => ?_))
  · obtain ⟨r, hr, rfl⟩ := List.mem_map.mp ht
    exact ⟨by simp, fun r' hr' => by rw [List.mem_singleton.mp hr']; exact hgR r hr⟩
  · obtain ⟨r, hr, rfl⟩ := List.mem_map.mp ht
    have := small_head (l := [r]) (fun r' hr' => by rw [List.mem_singleton.mp hr']; exact hsR r hr)
    simp at this; omega
  rw [hfl2] at hD
  obtain ⟨F8, q1, q2, N8, u1, u2, A8⟩ := addMade3 F6 N6 A6 hB1 hB2 S7 k7 hf
  clear F6 N6 S7 k7 A6 t1 t2
  obtain ⟨RD2, _, _, rfl, _, _⟩ := datList hD
  replace hx2 := hx2.mono fun q hq => List.mem_append_right made hq
  replace hdr := hdr.mono fun q hq => List.mem_append_right made hq
  replace hmr := List.mem_append_right made hmr
  replace hmD := List.mem_append_right made hmD
  replace hd5 := hd5.mono fun q hq => List.mem_append_right made hq
  replace hm5 := List.mem_append_right made hm5
  replace hD := hD.mono fun q hq => List.mem_append_left M5 hq
  clear hst hd6 hm6 hf hx1
  generalize made ++ M5 = M6 at *
  k_steps
  refine unhold ?_
  rename Fr _ _ _ _ => F9
  rename News _ _ _ _ => N9
  refine ne_same N9 (hD.mono fun q hq => .tail _ (.tail _ hq)) (hx2.mono fun q hq => .tail _ (.tail _ hq)) (rows_ok hgR) (by show un + 64 < cLine; omega) ?_
  k_steps
  refine unhold (For_G ?_)
  k_steps
  obtain ⟨m4, e4d, F9⟩ : ∃ m4 : Str → Option Value, m4 (Str.ofString "due") = some (.ref D2) ∧ Fr B L _ m4 := ⟨_, rfl, F9⟩
  have hlw := News.isList N9 (.tail _ (.tail _ hmD))
  have hlr := News.isList N9 (.tail _ (.tail _ hmr))
  refine unhold (iterZ (J := fun i m news => m (Str.ofString "due") = some (.ref D2) ∧ news = tabs q1 q2 M6) rfl hlw hlr (N9 _ (.tail _ (.tail _ hmD))).2.1 (N9 _ (.tail _ (.tail _ hmr))).2.1 F9 N9 ⟨e4d, rfl⟩ ?_ ?_)
  · intro i x y T m5 news5 h tk wr own hx hy hJ hoff hT F4 N4
    obtain ⟨e5, rfl⟩ := hJ
    replace F4 : Fr B L h m5 := F4
    replace N4 : News B L h (own ++ tabs q1 q2 M6) := N4
    rw [canon1 e5] at F4
    obtain ⟨n, t, hn, rfl⟩ := IntsAre.at' hI hx
    obtain ⟨r, hr, hDr⟩ := DatAll.at' hdr hy
    obtain ⟨n', hn', rfl⟩ := hrows i r hr
    rw [hn] at hn'
    cases hn'
    obtain ⟨ry, v0, vt, n0, a2, ts, us, n2, rfl, hm1, hm2⟩ := row_second hDr
    have N5 : News B L h ((ry, W.listOf (List.toArray (v0 :: .ref a2 :: vt)) n0) :: (a2, tup2 (.str (txt dataK) ts) (.str (txt (sixL (octs n))) us) n2) :: (own ++ tabs q1 q2 M6)) := newsSub N4 (by
      intro q hq
      rcases List.mem_cons.mp hq with rfl | hq
      · exact List.mem_append_right _ (.tail _ (.tail _ hm1))
      rcases List.mem_cons.mp hq with rfl | hq
      · exact List.mem_append_right _ (.tail _ (.tail _ hm2))
      · exact hq)
    clear N4
    generalize hZ : own ++ tabs q1 q2 M6 = Z at *
    clear F9 N9 hlw hlr
    have hS := six_octs n
    obtain ⟨bq, bl, bp, hbk, hq1, hq4⟩ := hS.back
    have hsz : (byteArr (b2aL (octs n))).size = 4 := by rw [byteArr_size]; exact hS.four
    k_steps
    refine unhold (off (c_law_mode  ((R2 _ (Fr.keep (by k_asm))).less (by omega)) fun t9 h9 tk9 k9 => ?_))
    rename Fr _ _ _ _ => F6
    rename News _ _ _ _ => N6
    replace F6 := frKp F6 k9
    replace N6 := newsKp N6 k9
    clear k9
    (try dsimp only)
    k_steps
    refine unhold (off (c_S_IMODE  ((R2 _ (Fr.keep (by k_asm))).less (by omega)) fun t9 h9 tk9 k9 => ?_))
    rename Fr _ _ _ _ => F6
    rename News _ _ _ _ => N6
    replace F6 := frKp F6 k9
    replace N6 := newsKp N6 k9
    clear k9
    (try dsimp only)
    k_steps
    refine unhold (off (c_S_IFMT  ((R2 _ (Fr.keep (by k_asm))).less (by omega)) fun t9 h9 tk9 k9 => ?_))
    rename Fr _ _ _ _ => F6
    rename News _ _ _ _ => N6
    replace F6 := frKp F6 k9
    replace N6 := newsKp N6 k9
    clear k9
    (try dsimp only)
    k_steps
    refine unhold (off (c_S_ISDIR  ((R2 _ (Fr.keep (by k_asm))).less (by omega)) fun h9 tk9 k9 => ?_))
    rename Fr _ _ _ _ => F6
    rename News _ _ _ _ => N6
    replace F6 := frKp F6 k9
    replace N6 := newsKp N6 k9
    clear k9
    (try dsimp only)
    k_steps
    · have ha : n.fmod 2 = 0 := by assumption
      rename News _ _ _ _ => N7
      refine unhold (ne_iib N7 (.tail _ (.head _)) (.head _) (mode_low n) (by rw [mode_high]; rw [if_pos ha]) (by rw [mode_high]; rw [if_pos ha, ha]; rfl) (by show un + 64 < cLine; omega) ?_)
      k_steps
      refine unhold (off (c_b64decode (enc_six hS) (by rw [hsz]; decide) (KBa.ints_make fun c hc => (by have := hS.each c hc; omega)) (fun c hc => (hS.each c hc).2.2) (by rw [hS.four]; decide) hbk hq1 hq4 octs_in ((R2 _ (Fr.keep (by k_asm))).less (by omega)) fun t9 h9 tk9 k9 => ?_))
      rename Fr _ _ _ _ => F6
      rename News _ _ _ _ => N6
      replace F6 := frKp F6 k9
      replace N6 := newsKp N6 k9
      clear k9
      (try dsimp only)
      k_steps
      refine unhold (off (c_octets  ((R2 _ (Fr.keep (by k_asm))).less (by omega)) fun t9 h9 tk9 k9 => ?_))
      rename Fr _ _ _ _ => F6
      rename News _ _ _ _ => N6
      replace F6 := frKp F6 k9
      replace N6 := newsKp N6 k9
      clear k9
      (try dsimp only)
      k_steps
      refine unhold (ne_bytes_same ?_)
      k_steps
      rename Fr _ _ _ _ => F7
      rename News _ _ _ _ => N7
      exact ⟨_, _, _, _, rfl, F7, newsSub N7 (fun q hq => .tail _ (.tail _ (.tail _ (.tail _ (hZ ▸ hq))))), hoff, rfl, rfl⟩
    · have ha : ¬ n.fmod 2 = 0 := by assumption
      rename News _ _ _ _ => N7
      refine unhold (ne_iib N7 (.tail _ (.head _)) (.head _) (mode_low n) (by rw [mode_high]; rw [if_neg ha]) (by rw [mode_high]; rw [if_neg ha, beq_eq_false_iff_ne.mpr ha]; rfl) (by show un + 64 < cLine; omega) ?_)
      k_steps
      refine unhold (off (c_b64decode (enc_six hS) (by rw [hsz]; decide) (KBa.ints_make fun c hc => (by have := hS.each c hc; omega)) (fun c hc => (hS.each c hc).2.2) (by rw [hS.four]; decide) hbk hq1 hq4 octs_in ((R2 _ (Fr.keep (by k_asm))).less (by omega)) fun t9 h9 tk9 k9 => ?_))
      rename Fr _ _ _ _ => F6
      rename News _ _ _ _ => N6
      replace F6 := frKp F6 k9
      replace N6 := newsKp N6 k9
      clear k9
      (try dsimp only)
      k_steps
      refine unhold (off (c_octets  ((R2 _ (Fr.keep (by k_asm))).less (by omega)) fun t9 h9 tk9 k9 => ?_))
      rename Fr _ _ _ _ => F6
      rename News _ _ _ _ => N6
      replace F6 := frKp F6 k9
      replace N6 := newsKp N6 k9
      clear k9
      (try dsimp only)
      k_steps
      refine unhold (ne_bytes_same ?_)
      k_steps
      rename Fr _ _ _ _ => F7
      rename News _ _ _ _ => N7
      exact ⟨_, _, _, _, rfl, F7, newsSub N7 (fun q hq => .tail _ (.tail _ (.tail _ (.tail _ (hZ ▸ hq))))), hoff, rfl, rfl⟩
  intro h' tk' m6 news6 F5 N5 hJ
  obtain ⟨e6, rfl⟩ := hJ
  replace F5 : Fr B L h' m6 := F5
  replace N5 : News B L h' (tabs q1 q2 M6) := N5
  rw [canon1 e6] at F5
  clear F9 N9 hlw hlr
  have N6 : News B L h' ((D2, W.listOf (List.toArray ys2) ys2.length) :: tabs q1 q2 M6) := newsSub N5 (by
    intro q hq
    rcases List.mem_cons.mp hq with rfl | hq
    · exact .tail _ (.tail _ hm5)
    · exact hq)
  clear N5
  (try dsimp only)
  k_steps
  refine unhold (LCg.Assign_ListComp_U F5 rfl (by with_unfolding_all rfl) (by with_unfolding_all rfl) (by decide) (by rfl) (by decide) (by rfl) (by rfl) (by rfl) ?_)
  (try dsimp only)
  k_steps
  have hz2 : (List.toArray ys2).size ≤ sizeLine := by rw [List.size_toArray, hl2y]; simp only [sizeLine]; omega
  refine unhold (krv_lit F5 N6 (News.isList N6 (.head _)) (.int _ _) rfl (fun D7 h7 F7 N7 l7 => ?_) (by with_unfolding_all rfl) (by kmk_pure) hz2)
  (try dsimp only)
  replace N7 : News B L h7 (tabs q1 q2 ((D7, W.listOf (List.toArray ys2.reverse) 0) :: M6)) := newsSub N7 (by
    intro q hq
    simp only [tabs, List.mem_cons] at hq ⊢
    rcases hq with a | a | a | a
    · exact .inr (.inr (.inl a))
    · exact .inr (.inr (.inr (.inl a)))
    · exact .inl a
    · exact .inr (.inr (.inr (.inr a))))
  have A7 : Apart ((D7, W.listOf (List.toArray ys2.reverse) 0) :: M6) := by
    intro q hq
    rcases List.mem_cons.mp hq with e | hq
    · rw [e]; exact ⟨Nat.ne_of_gt (l7 _ (.tail _ (.head _))), Nat.ne_of_gt (l7 _ (.tail _ (.tail _ (.head _))))⟩
    · exact A8 q hq
  have hd7 : DatAll M6 ys2.reverse (rows.reverse.map rowDat) := by
    have := datAll_rev hd5
    rwa [← List.map_reverse] at this
  have hl7 : ys2.reverse.length = rows.length := by rw [List.length_reverse]; exact hl2y
  k_steps
  refine unhold (listCompTA (M := (D7, W.listOf (List.toArray ys2.reverse) 0) :: M6) rfl F7 N7 u1 u2 A7 (.head _) (by omega) ((rows.reverse.map List.reverse).map rowDat) (by rw [List.length_map, List.length_map, List.length_reverse]; omega) ?_ ?_)
  · intro i v d ys M' q1 q2 I oI C oC D2 m2 h tk hv hd hC hx F4 N4 u1 u2 hM4 hs4 ne
    obtain ⟨r, hr, hdr⟩ := DatAll.at' hd7 hv
    rw [List.getElem?_map, List.getElem?_map, hr] at hd
    cases hd
    have hrm := List.mem_reverse.mp (List.mem_of_getElem? hr)
    obtain ⟨rv, vr, nv, rfl, hmv, hdv⟩ := datList hdr
    replace hmv := hs4 _ (.tail _ hmv)
    replace hdv := hdv.mono fun q hq => hs4 _ (.tail _ hq)
    have hvl : vr.length = r.length := by have := hdv.length; simpa using this
    have hr16 := (hsR r hrm).1
    k_steps
    have hz3 : (List.toArray vr).size ≤ sizeLine := by rw [List.size_toArray, hvl]; simp only [sizeLine]; omega
    refine unhold (krv_lit F4 N4 (News.isList N4 (.tail _ (.tail _ (.tail _ (.tail _ (.tail _ hmv)))))) (.int _ _) rfl (fun D8 h8 F8 N8 l8 => ?_) (by with_unfolding_all rfl) (by kmk_pure) hz3)
    exact endNew F8 N8 u1 u2 hM4 l8 (ds := r.reverse.map pairDat) (by have := datAll_rev hdv; rwa [← List.map_reverse] at this)
  intro h tk D9 ys9 M9 p1 p2 F8 N8 t1 t2 A9 hs9 hm9 hd9
  have hgT : ∀ r ∈ rows.reverse.map List.reverse, GoodR r := by
    intro r hr
    obtain ⟨x, hx, rfl⟩ := List.mem_map.mp hr
    exact good_rev (hgR x (List.mem_reverse.mp hx))
  have hsT : ∀ r ∈ rows.reverse.map List.reverse, r.length ≤ 16 ∧ ∀ p ∈ r, SmallP p := by
    intro r hr
    obtain ⟨x, hx, rfl⟩ := List.mem_map.mp hr
    exact small_rev (hsR x (List.mem_reverse.mp hx))
  have hT8 : (rows.reverse.map List.reverse).length = rows.length := by rw [List.length_map, List.length_reverse]
  have hT0 : rows.reverse.map List.reverse ≠ [] := fun e => hr0 (List.reverse_eq_nil_iff.mp (List.map_eq_nil_iff.mp e))
  generalize rows.reverse.map List.reverse = tr at *
  have hx9 : DatIn M9 (.ref D9) (.list (tr.map rowDat)) := .list hm9 hd9
  clear F5 N6 F7 N7 A7 hs9
  k_steps
  rename Fr _ _ _ _ => F6
  rename News _ _ _ _ => N6
  refine unhold (off (c_join g (sitsOf kG F6 N6 t1 t2) ((R2 _ (Fr.keep (by k_asm))).less (by omega)) (fun q hq => (N6 q (.tail _ (.tail _ hq))).1) hx9 hgT hsT (by omega) fun t h' tk' S7 k7 => ?_))
  obtain ⟨F7, q1, q2, N7, u1, u2, -⟩ := addMade3 F6 N6 A9 hB1 hB2 S7 k7 (made := []) (fun q hq => nomatch hq)
  clear F6 N6 S7 k7 t1 t2
  (try clear F8)
  (try clear N8)
  rw [List.nil_append] at N7
  (try dsimp only)
  k_steps
  rename Fr _ _ _ _ => F6
  rename News _ _ _ _ => N6
  have N8 : News B L _ (tabs q1 q2 M9) := newsSub N6 (fun q hq => .tail _ hq)
  have hfl3 : ([tr] : List (List (List Pr))).flatten = tr := by simp
  refine unhold (off (c_split (texts := [tr]) g (sitsOf kG F6 N8 u1 u2) ((R2 _ (Fr.keep (by k_asm))).less (by omega)) (News.isList N6 (.head _)) (.cons _ _ .nil) (fun t ht => by rw [List.mem_singleton.mp ht]; exact ⟨hT0, hgT⟩) (fun t ht => by rw [List.mem_singleton.mp ht]; have := small_head hsT; omega) (by rw [hfl3]; omega) fun v4 h' tk' made S7 k7 hf hD => ?_))
  rw [hfl3] at hD
  obtain ⟨F8, r1, r2, N9, w1, w2, -⟩ := addMade3 F6 N8 A9 hB1 hB2 S7 k7 hf
  clear F6 N6 N8 S7 k7
  (try clear F7)
  (try clear N7)
  obtain ⟨RD, ysr, nr, rfl, _, _⟩ := datList hD
  (try dsimp only)
  k_steps
  refine unhold ?_
  rename Fr _ _ _ _ => F9
  rename News _ _ _ _ => N9
  refine eq_same N9 (hD.mono fun q hq => .tail _ (.tail _ (List.mem_append_left _ hq))) (hx9.mono fun q hq => .tail _ (.tail _ (List.mem_append_right _ hq))) (rows_ok hgT) (by show un + 64 < cLine; omega) ?_
  k_steps
  rename Fr _ _ _ _ => F9
  exact ret _ _ (sitsOf kG F9 N9 w1 w2)
end
end Mine
end
section
open PySem PySem.W PyProof.Rows PySem.Calls
set_option maxRecDepth 100000
set_option maxHeartbeats 0
set_option rowWalk.seconds 0
set_option linter.unusedVariables false
namespace Mine
theorem oldOf {h h' : Heap} (hT : PySem.W.TabsAt [(93, 89), (76, 72)] h) (S : Sits (ghostOf h [(93, 89), (76, 72)]) h') : OldK h h' := by
  have keep : ∀ b o, b ∉ ([(93, 89), (76, 72)] : List (Addr × Addr)).map (·.2) → h.get? b = some o → h'.get? b = some o := fun b o hb e => S.k b o (ghost_ne e hb)
  have grown : ∀ b o, b ∈ ([(93, 89), (76, 72)] : List (Addr × Addr)).map (·.2) → h.get? b = some o → isCodeTable h b ∧ o = tabObj #[] ∧ ∃ ps, h'.get? b = some (tabObj ps) := fun b o hb e => by
    obtain ⟨q, hq, rfl⟩ := List.mem_map.mp hb
    have e2 := (hT q hq).2
    rw [e] at e2
    refine ⟨((hT q hq).1.tab (hT q hq).2).isCodeTable, Option.some.inj e2, ?_⟩
    rcases List.mem_cons.mp hq with r | hq
    · rw [r]; obtain ⟨ps, a, _⟩ := S.t2; exact ⟨ps, a⟩
    · rw [List.mem_singleton.mp hq]; obtain ⟨ps, a, _⟩ := S.t1; exact ⟨ps, a⟩
  refine ⟨fun b o e => ?_, fun b o e => ?_⟩
  · by_cases hb : b ∈ ([(93, 89), (76, 72)] : List (Addr × Addr)).map (·.2)
    · obtain ⟨ht, rfl, ps, hP⟩ := grown b o hb e
      exact .inr (.inl ⟨ht, rfl, #[], ps, rfl, by rw [Array.empty_append]; exact hP⟩)
    · exact .inl (keep b o hb e)
  · by_cases hb : b ∈ ([(93, 89), (76, 72)] : List (Addr × Addr)).map (·.2)
    · obtain ⟨_, _, ps, hP⟩ := grown b o hb e
      exact ⟨_, hP⟩
    · exact ⟨o, keep b o hb e⟩
theorem goodLaw {c : ClaimW} {cl : Str → Option Addr} {mean : ExcName → Option Value} {args : List WData} {s₁ : Shared} {h' : Heap} {tk : Nat} (hg : s₁.gens = #[]) (hT : PySem.W.TabsAt [(93, 89), (76, 72)] s₁.heap) (S : Sits (ghostOf s₁.heap [(93, 89), (76, 72)]) h') (hn : ∀ cls, c.raises args cls = false) (hp : c.post args (.bool true) args = true) :
    GoodWG c cl mean args s₁ (.ok (.ret (.bool true))) { s₁ with heap := h', toks := tk } :=
  ⟨.inl ⟨_, .bool true, [], rfl, hn, .bool true, hp, unshared_nil⟩, oldOf hT S, rfl, .of_eq hg⟩
end Mine
end
open PySem PySem.W PyProof.Rows PySem.Calls
set_option maxRecDepth 100000
set_option maxHeartbeats 0
set_option rowWalk.seconds 0
set_option linter.unusedVariables false
theorem PySem.Challenge.cw_qh0025_01_holds : PySem.Challenge.rw_qh0025_01.Holds := by
  refine Mine.hd ?_
  k_fill
  intro w s₀ s₁ mg mb G Y fa o pm cd doc dV kV ho hd hcd hD hmg hg args vals as hpre hlay hrd hwl hlo
  have KX := km_in_of Y
  km_tabs Y
  have X := (Ground.X G).1
  have V := (Ground.X G).2
  refine Ground.open G ?_
  intro T B D TE TW
  try (refine guard_noD D (by decide +kernel) ?_; clear D)
  km_lay T hmg ho hd cd
  wrow_args hpre hlay hrd hwl hlo
  have hm : mg (Str.ofString "law") = some (.ref fa) := hmg
  have hm2 := mg_of KX T.g (n := Str.ofString "law") (v := .ref 284) (by kernel_rfl)
  have hfa : fa = 284 := by rw [hm] at hm2; cases hm2; rfl
  clear hmg hm hm2 ho hd hcd hD
  subst hfa
  have X' := ghost_K hT9 KX (by kernel_rfl)
  have T' := ghost_top hT9 T
  have C' := ghost_code hT9
  have kp : Mine.Kp (ghostOf s₁.heap [(93, 89), (76, 72)]) s₁.heap := fun b o e => of_hideAll _ e
  rename Heap.IsList _ _ _ => hl
  rename IntsAre _ _ => hi
  rename ¬ _ < _ => hb
  refine Mine.off (Mine.c_law ⟨X', T', C'.2.1, C'.1, hideAll_none _ (by decide), hideAll_none _ (by decide)⟩ ⟨kp, ⟨#[], (hT9 _ (.tail _ (.head _))).2, by simp [TriplesOk]⟩, ⟨#[], (hT9 _ (.head _)).2, by simp [TriplesOk]⟩⟩ ⟨KX, T'.keeps kp, by decide, by decide, rfl⟩ hl hi (by omega) fun h' tk S => ?_)
  refine Mine.goodLaw hg hT9 S (raisesW_false ?_) ?_
  · wrow_none_raised
  · kc_post
