import PyProof.Rows.All
import OpenK.KLine
import KE.KLam
import KE.KUnpack
import PySem.Challenge.RW_dm0167_03
set_option Elab.async false
set_option linter.all false
set_option bootstrap.genMatcherCode false
set_option genSizeOf false
set_option genInjectivity false
noncomputable section
open PySem PySem.W PyProof.Rows
set_option Elab.async false
set_option maxRecDepth 100000
set_option maxHeartbeats 8000000
namespace MineTop
open_top hd for PySem.Challenge.rw_dm0167_03
end MineTop
end
noncomputable section
set_option Elab.async false
set_option linter.all false
set_option maxRecDepth 100000
namespace Mine.Re
open PySem PySem.Sre

/-! ## runs of the matcher -/
theorem runFor_done {m : M} (h : m.outcome.isSome = true) : ∀ n, M.runFor n m = m
  | 0 => rfl
  | n + 1 => by unfold M.runFor; rw [if_pos h]
theorem runFor_add : ∀ (a b : Nat) (m : M), M.runFor (a + b) m = M.runFor b (M.runFor a m)
  | 0, b, m => by rw [Nat.zero_add]; rfl
  | a + 1, b, m => by
    rw [show a + 1 + b = (a + b) + 1 by omega]
    by_cases h : m.outcome.isSome = true
    · rw [runFor_done h, runFor_done h, runFor_done h]
    · show (if m.outcome.isSome = true then m else M.runFor (a + b) m.step) = M.runFor b (if m.outcome.isSome = true then m else M.runFor a m.step)
      rw [if_neg h, if_neg h]
      exact runFor_add a b m.step

/-- within k steps a state is met of which Q holds -/
noncomputable def Reach (m : M) (Q : M → Prop) (k : Nat) : Prop := ∃ n, n ≤ k ∧ Q (M.runFor n m)
theorem Reach.here {m : M} {Q : M → Prop} (h : Q m) : Reach m Q 0 := ⟨0, Nat.le_refl _, h⟩
theorem Reach.bind {m : M} {Q R : M → Prop} {k l : Nat} (h : Reach m Q k) (g : ∀ m', Q m' → Reach m' R l) : Reach m R (k + l) := by
  obtain ⟨n, hn, q⟩ := h
  obtain ⟨n', hn', r⟩ := g _ q
  exact ⟨n + n', by omega, by rw [runFor_add]; exact r⟩
theorem Reach.mono {m : M} {Q : M → Prop} {k l : Nat} (h : Reach m Q k) (hl : k ≤ l) : Reach m Q l := let ⟨n, hn, q⟩ := h; ⟨n, by omega, q⟩
theorem Reach.step {m : M} {Q : M → Prop} {k : Nat} (h0 : m.outcome = none) (h : Reach m.step Q k) : Reach m Q (k + 1) := by
  obtain ⟨n, hn, q⟩ := h
  refine ⟨n + 1, by omega, ?_⟩
  show Q (if m.outcome.isSome = true then m else M.runFor n m.step)
  rw [if_neg (by rw [h0]; decide)]; exact q

/-- what stays as it is in a run -/
structure Cf where
  code : Array Nat
  text : Array Nat
  lim : Nat
  ls : Nat
noncomputable def st (c : Cf) (start pc pos handed : Nat) (om : Bool) (fs : List Sre.Frame) (wt : Nat) (ans : Option Bool) (sn : Seen) : M :=
  { code := c.code, text := c.text, lim := c.lim, start := start, lastStart := c.ls, pc := pc, pos := pos, handed := handed, outermost := om, marks := #[], frames := fs, weight := wt, answer := ans, seen := sn }

section
variable {c : Cf} {start pc pos handed wt : Nat} {om : Bool} {fs : List Sre.Frame} {sn : Seen}

theorem step_exec (h : pc < c.code.size) : (st c start pc pos handed om fs wt none sn).step = (st c start pc pos handed om fs wt none sn).exec := by
  unfold M.step
  rw [if_neg (by show ¬ (none : Option Sre.Outcome).isSome = true; decide)]
  show (if pc < c.code.size then _ else _) = _
  rw [if_pos h]

/-- one literal -/
theorem lit_step {d : Nat} (h : pc < c.code.size) (h0 : c.code.getD pc 0 = 16) (h1 : c.code.getD (pc + 1) 0 = d) :
    ∃ sn', (st c start pc pos handed om fs wt none sn).step = if pos < c.lim ∧ c.text.getD pos 0 = d then st c start (pc + 2) (pos + 1) handed om fs wt none sn' else st c start pc pos handed om fs wt (some false) sn' := by
  rw [step_exec h]
  unfold M.exec
  have hw : (st c start pc pos handed om fs wt none sn).word 0 = 16 := h0
  rw [hw]
  refine ⟨sn.add 16, ?_⟩
  show (if pos ≥ c.lim then _ else match accepts c.code pc (c.text.getD pos 0) (sn.add 16) with | .error why => _ | .ok (false, seen) => _ | .ok (true, seen) => _) = _
  have ha : accepts c.code pc (c.text.getD pos 0) (sn.add 16) = .ok (c.text.getD pos 0 == d, sn.add 16) := by
    unfold accepts
    rw [h0, h1]; rfl
  have hi : itemWidth c.code pc = 2 := by unfold itemWidth; rw [h0]; rfl
  rw [ha]
  by_cases hp : pos < c.lim
  · rw [if_neg (by omega)]
    by_cases hd : c.text.getD pos 0 = d
    · rw [if_pos ⟨hp, hd⟩]
      have : (c.text.getD pos 0 == d) = true := by simpa using hd
      rw [this]
      show (⟨_, _, _, _, _, _, _, _, _, _, _, _, _, _, _, _, _, _, _, _, _⟩ : M) = _
      unfold st
      congr 1
      show pc + itemWidth c.code pc = pc + 2
      rw [hi]
    · rw [if_neg (fun q => hd q.2)]
      have : (c.text.getD pos 0 == d) = false := by simpa using hd
      rw [this]; rfl
  · rw [if_pos (by omega), if_neg (fun q => hp q.1)]; rfl
end
end Mine.Re
end
noncomputable section
set_option Elab.async false
set_option linter.all false
set_option maxRecDepth 100000
namespace Mine.Re
open PySem PySem.Sre

/-- the code has the literals of a word at a place -/
noncomputable def Lits (code : Array Nat) : Nat → List Nat → Prop
  | _, [] => True
  | pc, d :: r => pc < code.size ∧ code.getD pc 0 = 16 ∧ code.getD (pc + 1) 0 = d ∧ Lits code (pc + 2) r
/-- the text has the word at a place, ahead of the limit -/
noncomputable def hasAt (text : Array Nat) (lim : Nat) : Nat → List Nat → Bool
  | _, [] => true
  | p, d :: r => decide (p < lim) && text.getD p 0 == d && hasAt text lim (p + 1) r

section
variable {c : Cf} {start pc pos handed wt : Nat} {om : Bool} {fs : List Sre.Frame} {sn : Seen}

/-- an answer is met, the waiting ones being as they were -/
noncomputable def Says (c : Cf) (start : Nat) (fs : List Sre.Frame) (wt : Nat) (b : Bool) (hd : Nat) (m : M) : Prop := ∃ pc pos handed om sn, m = st c start pc pos handed om fs wt (some b) sn ∧ (b = true → handed = hd)

theorem lits_run : ∀ (w : List Nat) (pc pos : Nat) (sn : Seen), Lits c.code pc w →
    Reach (st c start pc pos handed om fs wt none sn) (fun m => (hasAt c.text c.lim pos w = true ∧ ∃ sn', m = st c start (pc + 2 * w.length) (pos + w.length) handed om fs wt none sn') ∨ (hasAt c.text c.lim pos w = false ∧ Says c start fs wt false 0 m)) w.length
  | [], pc, pos, sn, _ => ⟨0, Nat.le_refl _, .inl ⟨rfl, sn, rfl⟩⟩
  | d :: r, pc, pos, sn, h => by
    obtain ⟨h1, h2, h3, h4⟩ := h
    obtain ⟨sn', e⟩ := lit_step (start := start) (pos := pos) (handed := handed) (om := om) (fs := fs) (wt := wt) (sn := sn) h1 h2 h3
    refine Reach.step rfl ?_
    rw [e]
    by_cases hp : pos < c.lim ∧ c.text.getD pos 0 = d
    · rw [if_pos hp]
      obtain ⟨n, hn, q⟩ := lits_run r (pc + 2) (pos + 1) sn' h4
      have hh : hasAt c.text c.lim pos (d :: r) = hasAt c.text c.lim (pos + 1) r := by
        show (decide (pos < c.lim) && c.text.getD pos 0 == d && hasAt c.text c.lim (pos + 1) r) = _
        rw [decide_eq_true hp.1, hp.2]; simp
      refine ⟨n, hn, ?_⟩
      rw [hh]
      rcases q with ⟨q1, sn'', q2⟩ | q
      · refine .inl ⟨q1, sn'', ?_⟩
        rw [q2]
        congr 1
        · simp; omega
        · simp; omega
      · exact .inr q
    · rw [if_neg hp]
      refine ⟨0, Nat.zero_le _, .inr ⟨?_, pc, pos, handed, om, sn', rfl, fun q => by cases q⟩⟩
      show (decide (pos < c.lim) && c.text.getD pos 0 == d && hasAt c.text c.lim (pos + 1) r) = _
      by_cases h1 : pos < c.lim
      · have : (c.text.getD pos 0 == d) = false := by simpa using fun q => hp ⟨h1, q⟩
        rw [this]; simp
      · simp [h1]

theorem step_jump {t : Nat} (h : pc < c.code.size) (h0 : c.code.getD pc 0 = 15) (h1 : pc + 1 + c.code.getD (pc + 1) 0 = t) :
    ∃ sn', (st c start pc pos handed om fs wt none sn).step = st c start t pos handed om fs wt none sn' := by
  rw [step_exec h]
  unfold M.exec
  have hw : (st c start pc pos handed om fs wt none sn).word 0 = 15 := h0
  rw [hw]
  exact ⟨sn.add 15, by rw [← h1]; rfl⟩

/-- the boundary behind a word -/
noncomputable def bound (text : Array Nat) (lim p : Nat) : Bool := lim != 0 && ((decide (p > 0) && isWordUni (text.getD (p - 1) 0)) != (decide (p < lim) && isWordUni (text.getD p 0)))
theorem bound_step (h : pc < c.code.size) (h0 : c.code.getD pc 0 = 6) (h1 : c.code.getD (pc + 1) 0 = 10) :
    ∃ sn', (st c start pc pos handed om fs wt none sn).step = if bound c.text c.lim pos = true then st c start (pc + 2) pos handed om fs wt none sn' else st c start pc pos handed om fs wt (some false) sn' := by
  rw [step_exec h]
  unfold M.exec
  have hw : (st c start pc pos handed om fs wt none sn).word 0 = 6 := h0
  have hw1 : (st c start pc pos handed om fs wt none sn).word 1 = 10 := h1
  rw [hw]
  refine ⟨(sn.add 6).add 53, ?_⟩
  have ha : ∀ s' : Seen, M.isAt { st c start pc pos handed om fs wt none sn with seen := s' } (M.word { st c start pc pos handed om fs wt none sn with seen := s' } 1) = .ok (bound c.text c.lim pos) := fun s' => by
    have : M.word { st c start pc pos handed om fs wt none sn with seen := s' } 1 = 10 := h1
    rw [this]
    show Except.ok (c.lim != 0 && ((decide (pos > 0) && isWordUni (c.text.getD (pos - 1) 0)) != (decide (pos < c.lim) && isWordUni (c.text.getD pos 0))) == true) = _
    congr 1
    unfold bound
    simp
  show (match M.isAt { st c start pc pos handed om fs wt none sn with seen := sn.add 6 } (M.word { st c start pc pos handed om fs wt none sn with seen := sn.add 6 } 1) with | .error why => _ | .ok yes => _) = _
  rw [ha]
  have e53 : 43 + M.word { st c start pc pos handed om fs wt none sn with seen := sn.add 6 } 1 = 53 := by
    have : M.word { st c start pc pos handed om fs wt none sn with seen := sn.add 6 } 1 = 10 := h1
    rw [this]
  show (if bound c.text c.lim pos = true then _ else _) = _
  by_cases hb : bound c.text c.lim pos = true
  · rw [if_pos hb, if_pos hb]
    show ({ st c start pc pos handed om fs wt none sn with seen := (sn.add 6).add (43 + M.word { st c start pc pos handed om fs wt none sn with seen := sn.add 6 } 1), pc := pc + 2 } : M) = _
    rw [e53]; rfl
  · rw [if_neg hb, if_neg hb]
    show ({ st c start pc pos handed om fs wt none sn with seen := (sn.add 6).add (43 + M.word { st c start pc pos handed om fs wt none sn with seen := sn.add 6 } 1), answer := some false } : M) = _
    rw [e53]; rfl

theorem done_step (h : pc < c.code.size) (h0 : c.code.getD pc 0 = 1) :
    ∃ sn', (st c start pc pos handed om fs wt none sn).step = st c start pc pos pos om fs wt (some true) sn' := by
  rw [step_exec h]
  unfold M.exec
  have hw : (st c start pc pos handed om fs wt none sn).word 0 = 1 := h0
  rw [hw]
  refine ⟨sn.add 1, ?_⟩
  show (if (om && ((false && (pos != c.lim)) || (false && (pos == start)))) = true then _ else _) = _
  rw [if_neg (by simp)]
  rfl
end
end Mine.Re
end
noncomputable section
set_option Elab.async false
set_option linter.all false
set_option maxRecDepth 100000
namespace Mine.Re
open PySem PySem.Sre

noncomputable def nb (alt pos : Nat) (om : Bool) : Sre.Frame := { wait := .nextBranch, pc := alt, pos := pos, outermost := om }
/-- the alternatives of a branch, all of literals, all ending at a boundary -/
noncomputable def Alts (code : Array Nat) (E : Nat) : Nat → List (List Nat) → Prop
  | alt, [] => code.getD alt 0 = 0
  | alt, w :: r => code.getD alt 0 = 2 * w.length + 3 ∧ Lits code (alt + 1) w ∧ alt + 1 + 2 * w.length < code.size ∧ code.getD (alt + 1 + 2 * w.length) 0 = 15 ∧ alt + 1 + 2 * w.length + 1 + code.getD (alt + 1 + 2 * w.length + 1) 0 = E ∧ Alts code E (alt + 2 * w.length + 3) r
noncomputable def Tail (code : Array Nat) (E : Nat) : Prop := E < code.size ∧ code.getD E 0 = 6 ∧ code.getD (E + 1) 0 = 10 ∧ E + 2 < code.size ∧ code.getD (E + 2) 0 = 1

/-- where the first word of the list ends that stands at a place -/
noncomputable def wordEnd (text : Array Nat) (lim p : Nat) : List (List Nat) → Option Nat
  | [] => none
  | w :: r => if hasAt text lim p w && bound text lim (p + w.length) then some (p + w.length) else wordEnd text lim p r
noncomputable def cost : List (List Nat) → Nat
  | [] => 0
  | w :: r => w.length + 4 + cost r

section
variable {c : Cf} {start pc pos handed wt : Nat} {om : Bool} {fs : List Sre.Frame} {sn : Seen}

theorem alt_eq {alt : Nat} (hw : wt < 16777216) : (st c start pc pos handed om fs wt none sn).alternative alt {} = if c.code.getD alt 0 = 0 then st c start pc pos handed om fs wt (some false) sn else st c start (alt + 1) pos pos om (nb alt pos om :: fs) (wt + 1) none sn := by
  unfold M.alternative
  show (if (c.code.getD alt 0 == 0) = true then _ else _) = _
  by_cases h : c.code.getD alt 0 = 0
  · rw [if_pos h, if_pos (by simpa using h)]; rfl
  · rw [if_neg h, if_neg (by simpa using h)]
    unfold M.attempt
    rw [if_neg (by show ¬ (wt + 1 + 0 > 16777216); omega)]
    rfl

theorem resume_nb {alt : Nat} {b : Bool} {p' q' h' : Nat} {om' : Bool} :
    (st c start p' q' h' om' (nb alt pos om :: fs) (wt + 1) (some b) sn).step = if b = true then st c start alt pos h' om fs wt (some true) sn else (st c start alt pos h' om fs wt none sn).alternative (alt + c.code.getD alt 0) {} := by
  unfold M.step
  rw [if_neg (by show ¬ (none : Option Sre.Outcome).isSome = true; decide)]
  show M.resume { st c start p' q' h' om' fs (wt + 1 - (1 + 0)) none sn with pc := alt, pos := pos, outermost := om } (nb alt pos om) b = _
  have e : wt + 1 - (1 + 0) = wt := by omega
  rw [e]
  unfold M.resume
  cases b with
  | true => rfl
  | false => rfl

theorem branch_run {E : Nat} (T : Tail c.code E) : ∀ (ws : List (List Nat)) (alt pc handed : Nat) (sn : Seen), Alts c.code E alt ws → wt + 1 < 16777216 →
    Reach ((st c start pc pos handed om fs wt none sn).alternative alt {}) (fun m => (∃ e, wordEnd c.text c.lim pos ws = some e ∧ Says c start fs wt true e m) ∨ (wordEnd c.text c.lim pos ws = none ∧ Says c start fs wt false 0 m)) (cost ws)
  | [], alt, pc, handed, sn, h, hw => by
    rw [alt_eq (by omega), if_pos (show c.code.getD alt 0 = 0 from h)]
    exact ⟨0, Nat.le_refl _, .inr ⟨rfl, pc, pos, handed, om, sn, rfl, fun q => by cases q⟩⟩
  | w :: r, alt, pc, handed, sn, h, hw => by
    obtain ⟨a1, a2, a3, a4, a5, a6⟩ := h
    rw [alt_eq (by omega), if_neg (by rw [a1]; omega)]
    have next : ∀ m, (hasAt c.text c.lim pos w && bound c.text c.lim (pos + w.length)) = false → Says c start (nb alt pos om :: fs) (wt + 1) false 0 m → Reach m (fun m => (∃ e, wordEnd c.text c.lim pos (w :: r) = some e ∧ Says c start fs wt true e m) ∨ (wordEnd c.text c.lim pos (w :: r) = none ∧ Says c start fs wt false 0 m)) (1 + cost r) := by
      intro m hno hm
      obtain ⟨p', q', h', om', sn', rfl, _⟩ := hm
      refine (Reach.step (k := cost r) rfl ?_).mono (by omega)
      rw [resume_nb, if_neg (by decide), a1]
      have ih := branch_run T r (alt + 2 * w.length + 3) alt h' sn' a6 hw
      have e : wordEnd c.text c.lim pos (w :: r) = wordEnd c.text c.lim pos r := by
        show (if _ then _ else _) = _
        rw [if_neg (by rw [hno]; decide)]
      rw [e]
      rw [show alt + (2 * w.length + 3) = alt + 2 * w.length + 3 by omega]
      exact ih
    have key := lits_run (c := c) (start := start) (handed := pos) (om := om) (fs := nb alt pos om :: fs) (wt := wt + 1) w (alt + 1) pos sn a2
    have hcost : cost (w :: r) = w.length + (3 + (1 + cost r)) := by show w.length + 4 + cost r = _; omega
    rw [hcost]
    refine key.bind fun m hm => ?_
    rcases hm with ⟨hyes, sn', rfl⟩ | ⟨hno, hs⟩
    · obtain ⟨sn2, e2⟩ := step_jump (c := c) (start := start) (pos := pos + w.length) (handed := pos) (om := om) (fs := nb alt pos om :: fs) (wt := wt + 1) (sn := sn') (pc := alt + 1 + 2 * w.length) a3 a4 a5
      have s1 : Reach (st c start (alt + 1 + 2 * w.length) (pos + w.length) pos om (nb alt pos om :: fs) (wt + 1) none sn') (fun m => m = st c start E (pos + w.length) pos om (nb alt pos om :: fs) (wt + 1) none sn2) 1 := Reach.step rfl ⟨0, Nat.le_refl _, e2⟩
      refine (s1.bind (l := 2 + (1 + cost r)) fun m hm => ?_).mono (by omega)
      subst hm
      obtain ⟨sn3, e3⟩ := bound_step (c := c) (start := start) (pos := pos + w.length) (handed := pos) (om := om) (fs := nb alt pos om :: fs) (wt := wt + 1) (sn := sn2) T.1 T.2.1 T.2.2.1
      rw [show 2 + (1 + cost r) = (1 + (1 + cost r)) + 1 by omega]
      refine Reach.step rfl ?_
      rw [e3]
      by_cases hb : bound c.text c.lim (pos + w.length) = true
      · rw [if_pos hb]
        obtain ⟨sn4, e4⟩ := done_step (c := c) (start := start) (pos := pos + w.length) (handed := pos) (om := om) (fs := nb alt pos om :: fs) (wt := wt + 1) (sn := sn3) T.2.2.2.1 T.2.2.2.2
        rw [show 1 + (1 + cost r) = (1 + cost r) + 1 by omega]
        refine Reach.step rfl ?_
        rw [e4]
        rw [show 1 + cost r = cost r + 1 by omega]
        refine Reach.step rfl ?_
        rw [resume_nb, if_pos rfl]
        refine ⟨0, Nat.zero_le _, .inl ⟨pos + w.length, ?_, alt, pos, pos + w.length, om, sn4, rfl, fun _ => rfl⟩⟩
        show (if _ then _ else _) = _
        rw [if_pos (by rw [hyes, hb]; rfl)]
      · rw [if_neg hb]
        refine (next _ (by rw [hyes]; simpa using hb) ⟨E, pos + w.length, pos, om, sn3, rfl, fun q => by cases q⟩).mono (by omega)
    · exact (next m (by rw [hno]; rfl) hs).mono (by omega)
end
end Mine.Re
end
noncomputable section
set_option Elab.async false
set_option linter.all false
set_option maxRecDepth 100000
namespace Mine.Re
open PySem PySem.Sre

noncomputable def isBlank (d : Nat) : Bool := d == 32 || d == 9
noncomputable def blk (text : Array Nat) : Nat → Nat → Nat
  | 0, _ => 0
  | n + 1, p => if isBlank (text.getD p 0) = true then blk text n (p + 1) + 1 else 0
theorem blk_le (text : Array Nat) : ∀ n p, blk text n p ≤ n
  | 0, _ => Nat.le_refl _
  | n + 1, p => by unfold blk; split; exact Nat.succ_le_succ (blk_le text n (p + 1)); exact Nat.zero_le _
theorem blk_blank (text : Array Nat) : ∀ n p k, k < blk text n p → isBlank (text.getD (p + k) 0) = true
  | 0, _, k, h => by unfold blk at h; omega
  | n + 1, p, k, h => by
    unfold blk at h
    split at h
    · rename_i hb
      cases k with
      | zero => exact hb
      | succ k => rw [show p + (k + 1) = (p + 1) + k by omega]; exact blk_blank text n (p + 1) k (by omega)
    · omega

noncomputable def BlankSet (code : Array Nat) (i : Nat) : Prop := code.getD i 0 = 13 ∧ code.getD (i + 2) 0 = 16 ∧ code.getD (i + 2 + 1) 0 = 32 ∧ code.getD (i + 4) 0 = 16 ∧ code.getD (i + 4 + 1) 0 = 9 ∧ code.getD (i + 6) 0 = 0 ∧ 3 ≤ code.size

theorem inSet_lit {code : Array Nat} {ch fuel i d : Nat} {yes : Bool} {seen : Seen} (h0 : code.getD i 0 = 16) (h1 : code.getD (i + 1) 0 = d) :
    ∃ seen', inSet code ch (fuel + 1) i yes seen = if ch = d then .ok (yes, seen') else inSet code ch fuel (i + 2) yes seen' := by
  refine ⟨seen.add (code.getD (i + 0) 0), ?_⟩
  have e0 : ops[code.getD (i + 0) 0]? = some .LITERAL := (congrArg (fun z => ops[z]?) h0).trans rfl
  refine (congrArg (fun z => inSet.match_1 (fun _ => Except String (Bool × Seen)) z _ _ _ _ _ _ _ _ _) e0).trans ?_
  show (if (ch == code.getD (i + 1) 0) = true then _ else _) = _
  rw [h1]
  by_cases h : ch = d
  · rw [if_pos h, if_pos (by simpa using h)]
  · rw [if_neg h, if_neg (by simpa using h)]
theorem inSet_end {code : Array Nat} {ch fuel i : Nat} {yes : Bool} {seen : Seen} (h0 : code.getD i 0 = 0) : ∃ seen', inSet code ch (fuel + 1) i yes seen = .ok (!yes, seen') := by
  refine ⟨seen.add (code.getD (i + 0) 0), ?_⟩
  have e0 : ops[code.getD (i + 0) 0]? = some .FAILURE := (congrArg (fun z => ops[z]?) h0).trans rfl
  exact (congrArg (fun z => inSet.match_1 (fun _ => Except String (Bool × Seen)) z _ _ _ _ _ _ _ _ _) e0).trans rfl

theorem acc_blank {code : Array Nat} {i : Nat} (B : BlankSet code i) (ch : Nat) (seen : Seen) : ∃ seen', accepts code i ch seen = .ok (isBlank ch, seen') := by
  obtain ⟨b0, b1, b2, b3, b4, b5, b6⟩ := B
  have ha : accepts code i ch seen = inSet code ch code.size (i + 2) true seen := by unfold accepts; rw [b0]; rfl
  obtain ⟨n, hn⟩ : ∃ n, code.size = n + 1 + 1 + 1 := ⟨code.size - 3, by omega⟩
  rw [ha, hn]
  obtain ⟨s1, e1⟩ := inSet_lit (ch := ch) (fuel := n + 1 + 1) (yes := true) (seen := seen) b1 b2
  obtain ⟨s2, e2⟩ := inSet_lit (ch := ch) (fuel := n + 1) (yes := true) (seen := s1) b3 b4
  obtain ⟨s3, e3⟩ := inSet_end (ch := ch) (fuel := n) (yes := true) (seen := s2) b5
  rw [e1]
  by_cases h1 : ch = 32
  · rw [if_pos h1]; exact ⟨s1, by rw [show isBlank ch = true by unfold isBlank; simp [h1]]⟩
  · rw [if_neg h1, show i + 2 + 2 = i + 4 by omega, e2]
    by_cases h2 : ch = 9
    · rw [if_pos h2]; exact ⟨s2, by rw [show isBlank ch = true by unfold isBlank; simp [h2]]⟩
    · rw [if_neg h2, show i + 4 + 2 = i + 6 by omega, e3]; exact ⟨s3, by rw [show isBlank ch = false by unfold isBlank; simp [h1, h2]]; rfl⟩

theorem run_blank {code text : Array Nat} {i : Nat} (B : BlankSet code i) : ∀ (n p found : Nat) (seen : Seen), ∃ seen', Sre.run code text i n p found seen = .ok (found + blk text n p, seen')
  | 0, p, found, seen => ⟨seen, rfl⟩
  | n + 1, p, found, seen => by
    obtain ⟨s1, e1⟩ := acc_blank B (text.getD p 0) seen
    unfold Sre.run
    rw [e1]
    show ∃ seen', (if isBlank (text.getD p 0) = true then Sre.run code text i n (p + 1) (found + 1) s1 else pure (found, s1)) = _
    unfold blk
    by_cases h : isBlank (text.getD p 0) = true
    · rw [if_pos h, if_pos h]
      obtain ⟨s2, e2⟩ := run_blank B n (p + 1) (found + 1) s1
      exact ⟨s2, by rw [e2]; congr 2; omega⟩
    · rw [if_neg h, if_neg h]; exact ⟨s1, rfl⟩

noncomputable def gb (pc pos : Nat) (om : Bool) (n : Nat) : Sre.Frame := { wait := .giveBack, pc := pc, pos := pos, outermost := om, count := n }
noncomputable def Rep (code : Array Nat) (pc : Nat) : Prop := pc < code.size ∧ code.getD pc 0 = 24 ∧ code.getD (pc + 1) 0 = 11 ∧ code.getD (pc + 2) 0 = 0 ∧ code.getD (pc + 3) 0 = 4294967295 ∧ BlankSet code (pc + 4)

section
variable {c : Cf} {start pc pos handed wt : Nat} {om : Bool} {fs : List Sre.Frame} {sn : Seen}

theorem rep_step (R : Rep c.code pc) (hp : pos ≤ c.lim) (hl : c.lim < 4294967295) (hw : wt < 16777216) :
    ∃ sn', (st c start pc pos handed om fs wt none sn).step = st c start (pc + 12) (pos + blk c.text (c.lim - pos) pos) (pos + blk c.text (c.lim - pos) pos) om (gb pc (pos + blk c.text (c.lim - pos) pos) om (blk c.text (c.lim - pos) pos) :: fs) (wt + 1) none sn' := by
  obtain ⟨r0, r1, r2, r3, r4, r5⟩ := R
  rw [step_exec r0]
  unfold M.exec
  have hwd : (st c start pc pos handed om fs wt none sn).word 0 = 24 := r1
  rw [hwd]
  dsimp only [show ops[24]? = some Op.REPEAT_ONE from rfl]
  have hw2 : ∀ s' : Seen, M.word { st c start pc pos handed om fs wt none sn with seen := s' } 2 = 0 := fun s' => r3
  have hw3 : ∀ s' : Seen, M.word { st c start pc pos handed om fs wt none sn with seen := s' } 3 = 4294967295 := fun s' => r4
  rw [hw2, hw3]
  have hroom : ((c.lim : Int) - (pos : Int)).toNat = c.lim - pos := by omega
  obtain ⟨s1, e1⟩ := run_blank (text := c.text) r5 (c.lim - pos) pos 0 ((sn.add 24).add (c.code.getD (pc + 4) 0))
  refine ⟨s1, ?_⟩
  show (if ((0 : Nat) : Int) > (c.lim : Int) - (pos : Int) then _ else match Sre.run c.code c.text (pc + 4) (min 4294967295 ((c.lim : Int) - (pos : Int)).toNat) pos 0 ((sn.add 24).add (c.code.getD (pc + 4) 0)) with | .error why => _ | .ok (n, seen) => _) = _
  rw [if_neg (by omega), hroom, Nat.min_eq_right (by omega)]
  rw [e1]
  show (if 0 + blk c.text (c.lim - pos) pos < 0 then _ else _) = _
  rw [if_neg (by omega), Nat.zero_add]
  show M.afterRun { st c start pc (pos + blk c.text (c.lim - pos) pos) handed om fs wt none sn with seen := s1 } .giveBack (blk c.text (c.lim - pos) pos : Nat) {} = _
  unfold M.afterRun M.attempt
  rw [if_neg (by show ¬ (wt + 1 + 0 > 16777216); omega)]
  have ht : ∀ s' : Seen, M.word { st c start pc (pos + blk c.text (c.lim - pos) pos) handed om fs wt none sn with seen := s' } 1 = 11 := fun s' => r2
  show ({ st c start (pc + 1 + M.word { st c start pc (pos + blk c.text (c.lim - pos) pos) handed om fs wt none sn with seen := s1 } 1) _ _ om _ _ none s1 with code := c.code } : M) = _
  rw [ht]
  rfl

theorem resume_gb {n : Nat} {b : Bool} {p' q' h' : Nat} {om' : Bool} (R : Rep c.code pc) (hw : wt < 16777216) :
    (st c start p' q' h' om' (gb pc pos om n :: fs) (wt + 1) (some b) sn).step = if b = true then st c start pc pos h' om fs wt (some true) sn
      else if n = 0 then st c start pc pos h' om fs wt (some false) sn else st c start (pc + 12) (pos - 1) (pos - 1) om (gb pc (pos - 1) om (n - 1) :: fs) (wt + 1) none sn := by
  obtain ⟨r0, r1, r2, r3, r4, r5⟩ := R
  unfold M.step
  rw [if_neg (by show ¬ (none : Option Sre.Outcome).isSome = true; decide)]
  show M.resume { st c start p' q' h' om' fs (wt + 1 - (1 + 0)) none sn with pc := pc, pos := pos, outermost := om } (gb pc pos om n) b = _
  have e : wt + 1 - (1 + 0) = wt := by omega
  rw [e]
  unfold M.resume
  cases b with
  | true => rfl
  | false =>
    rw [if_neg (by decide)]
    show (if (n : Int) - 1 < ((c.code.getD (pc + 2) 0 : Nat) : Int) then _ else _) = _
    rw [r3]
    by_cases hn : n = 0
    · rw [if_pos hn, if_pos (by omega)]; rfl
    · rw [if_neg hn, if_neg (by omega)]
      show M.afterRun (st c start pc (pos - 1) h' om fs wt none sn) .giveBack ((n : Int) - 1) {} = _
      unfold M.afterRun M.attempt
      rw [if_neg (by show ¬ (wt + 1 + 0 > 16777216); omega)]
      have ht : (st c start pc (pos - 1) h' om fs wt none sn).word 1 = 11 := r2
      rw [ht]
      have hc : (n : Int) - 1 = ((n - 1 : Nat) : Int) := by omega
      rw [hc]
      rfl
end
end Mine.Re
end
noncomputable section
set_option Elab.async false
set_option linter.all false
set_option maxRecDepth 100000
namespace Mine.Re
open PySem PySem.Sre

noncomputable def Words (ws : List (List Nat)) : Prop := ∀ w ∈ ws, ∃ d r, w = d :: r ∧ isBlank d = false
theorem no_blank_word {text : Array Nat} {lim p : Nat} (h : isBlank (text.getD p 0) = true) : ∀ {ws : List (List Nat)}, Words ws → wordEnd text lim p ws = none
  | [], _ => rfl
  | w :: r, hw => by
    obtain ⟨d, r', rfl, hd⟩ := hw w (.head _)
    have hne : (text.getD p 0 == d) = false := by
      have : text.getD p 0 ≠ d := by rintro rfl; rw [h] at hd; cases hd
      simpa using this
    show (if ((decide (p < lim) && text.getD p 0 == d && hasAt text lim (p + 1) r') && _) = true then _ else _) = _
    rw [hne]
    simp only [Bool.and_false, Bool.false_and, Bool.false_eq_true, if_false]
    exact no_blank_word h fun w hw' => hw w (.tail _ hw')

/-- the pattern: a line's start, blanks, one of the words, a boundary -/
structure Pat (code : Array Nat) (ws : List (List Nat)) (p0 E : Nat) : Prop where
  at0 : p0 < code.size ∧ code.getD p0 0 = 6 ∧ code.getD (p0 + 1) 0 = 1
  rep : Rep code (p0 + 2)
  br : p0 + 14 < code.size ∧ code.getD (p0 + 14) 0 = 7
  alts : Alts code E (p0 + 15) ws
  tail : Tail code E
  words : Words ws

section
variable {c : Cf} {start pc pos handed wt : Nat} {om : Bool} {fs : List Sre.Frame} {sn : Seen} {ws : List (List Nat)} {p0 E : Nat}

theorem branch_step (h : pc < c.code.size) (h0 : c.code.getD pc 0 = 7) : ∃ sn', (st c start pc pos handed om fs wt none sn).step = (st c start pc pos handed om fs wt none sn').alternative (pc + 1) {} := by
  rw [step_exec h]
  unfold M.exec
  have hw : (st c start pc pos handed om fs wt none sn).word 0 = 7 := h0
  rw [hw]
  exact ⟨sn.add 7, rfl⟩

theorem cost_a (A c : Nat) : A + (c + 2) = (c + (1 + A)) + 1 := by omega
theorem cost_b (c A : Nat) : 0 + 1 ≤ c + (1 + A) := by omega
theorem back_a {n pos : Nat} (h : n + 1 ≤ pos) (k : Nat) : pos - 1 - n + k = pos - (n + 1) + k := by omega
theorem back_b {n pos : Nat} (h : n + 1 ≤ pos) : pos - (n + 1) + n = pos - 1 := by omega
/-- from the branch on, with n blanks that may be given back -/
theorem give_run (P : Pat c.code ws p0 E) : ∀ (n pos handed : Nat) (sn : Seen), (∀ k, k < n → isBlank (c.text.getD (pos - n + k) 0) = true) → n ≤ pos → wt + 2 < 16777216 →
    Reach (st c start (p0 + 14) pos handed om (gb (p0 + 2) pos om n :: fs) (wt + 1) none sn) (fun m => (∃ e, wordEnd c.text c.lim pos ws = some e ∧ Says c start fs wt true e m) ∨ (wordEnd c.text c.lim pos ws = none ∧ Says c start fs wt false 0 m)) ((n + 1) * (cost ws + 2)) := by
  intro n
  induction n with
  | zero =>
    intro pos handed sn hb hn hw
    obtain ⟨s1, e1⟩ := branch_step (c := c) (start := start) (pos := pos) (handed := handed) (om := om) (fs := gb (p0 + 2) pos om 0 :: fs) (wt := wt + 1) (sn := sn) P.br.1 P.br.2
    rw [show (0 + 1) * (cost ws + 2) = (cost ws + 1) + 1 from Nat.one_mul _]
    refine Reach.step rfl ?_
    rw [e1]
    refine (branch_run (c := c) (start := start) (pos := pos) (om := om) (fs := gb (p0 + 2) pos om 0 :: fs) (wt := wt + 1) P.tail ws (p0 + 15) (p0 + 14) handed s1 P.alts (by omega)).bind fun m hm => ?_
    rcases hm with ⟨e, he, p', q', h', om', sn', rfl, hh⟩ | ⟨he, p', q', h', om', sn', rfl, _⟩
    · refine Reach.step (k := 0) rfl ?_
      rw [resume_gb P.rep (by omega), if_pos rfl]
      exact ⟨0, Nat.le_refl _, .inl ⟨e, he, p0 + 2, pos, h', om, sn', rfl, hh⟩⟩
    · refine Reach.step (k := 0) rfl ?_
      rw [resume_gb P.rep (by omega), if_neg (by decide), if_pos rfl]
      exact ⟨0, Nat.le_refl _, .inr ⟨he, p0 + 2, pos, h', om, sn', rfl, fun q => by cases q⟩⟩
  | succ n ih =>
    intro pos handed sn hb hn hw
    obtain ⟨s1, e1⟩ := branch_step (c := c) (start := start) (pos := pos) (handed := handed) (om := om) (fs := gb (p0 + 2) pos om (n + 1) :: fs) (wt := wt + 1) (sn := sn) P.br.1 P.br.2
    have hc : (n + 1 + 1) * (cost ws + 2) = (cost ws + (1 + (n + 1) * (cost ws + 2))) + 1 := by rw [Nat.succ_mul]; exact cost_a _ _
    rw [hc]
    refine Reach.step rfl ?_
    rw [e1]
    refine (branch_run (c := c) (start := start) (pos := pos) (om := om) (fs := gb (p0 + 2) pos om (n + 1) :: fs) (wt := wt + 1) P.tail ws (p0 + 15) (p0 + 14) handed s1 P.alts (by omega)).bind fun m hm => ?_
    rcases hm with ⟨e, he, p', q', h', om', sn', rfl, hh⟩ | ⟨he, p', q', h', om', sn', rfl, _⟩
    · refine (Reach.step (k := 0) rfl ?_).mono (by omega)
      rw [resume_gb P.rep (by omega), if_pos rfl]
      exact ⟨0, Nat.le_refl _, .inl ⟨e, he, p0 + 2, pos, h', om, sn', rfl, hh⟩⟩
    · refine (Reach.step (k := (n + 1) * (cost ws + 2)) rfl ?_).mono (Nat.le_of_eq (Nat.add_comm _ _))
      rw [resume_gb P.rep (by omega), if_neg (by decide), if_neg (by omega)]
      have hbl : isBlank (c.text.getD (pos - 1) 0) = true := by
        have := hb n (Nat.lt_succ_self n)
        rw [back_b hn] at this; exact this
      have hnone := no_blank_word (lim := c.lim) hbl P.words
      have := ih (pos - 1) (pos - 1) sn' (fun k hk => by have := hb k (Nat.lt_succ_of_lt hk); rw [back_a hn]; exact this) (Nat.le_sub_of_add_le hn) hw
      obtain ⟨k, hk, q⟩ := this
      refine ⟨k, hk, ?_⟩
      rcases q with ⟨e, he', _⟩ | ⟨_, hs⟩
      · rw [hnone] at he'; cases he'
      · exact .inr ⟨he, hs⟩

noncomputable def lineStart (text : Array Nat) (p : Nat) : Bool := p == 0 || text.getD (p - 1) 0 == 10
noncomputable def matchAt (text : Array Nat) (lim : Nat) (ws : List (List Nat)) (p : Nat) : Option Nat := if lineStart text p = true then wordEnd text lim (p + blk text (lim - p) p) ws else none

theorem at_step (h : pc < c.code.size) (h0 : c.code.getD pc 0 = 6) (h1 : c.code.getD (pc + 1) 0 = 1) :
    ∃ sn', (st c start pc pos handed om fs wt none sn).step = if lineStart c.text pos = true then st c start (pc + 2) pos handed om fs wt none sn' else st c start pc pos handed om fs wt (some false) sn' := by
  rw [step_exec h]
  unfold M.exec
  have hw : (st c start pc pos handed om fs wt none sn).word 0 = 6 := h0
  rw [hw]
  refine ⟨(sn.add 6).add 44, ?_⟩
  have e1 : M.word { st c start pc pos handed om fs wt none sn with seen := sn.add 6 } 1 = 1 := h1
  show (match M.isAt { st c start pc pos handed om fs wt none sn with seen := sn.add 6 } (M.word { st c start pc pos handed om fs wt none sn with seen := sn.add 6 } 1) with | .error why => _ | .ok yes => if yes = true then ({ st c start pc pos handed om fs wt none sn with seen := (sn.add 6).add (43 + M.word { st c start pc pos handed om fs wt none sn with seen := sn.add 6 } 1), pc := pc + 2 } : M) else ({ st c start pc pos handed om fs wt none sn with seen := (sn.add 6).add (43 + M.word { st c start pc pos handed om fs wt none sn with seen := sn.add 6 } 1), answer := some false } : M)) = _
  rw [e1]
  rfl

theorem match_run (P : Pat c.code ws p0 E) (hp : pos ≤ c.lim) (hl : c.lim < 4294967295) (hw : wt + 2 < 16777216) :
    Reach (st c start p0 pos handed om fs wt none sn) (fun m => (∃ e, matchAt c.text c.lim ws pos = some e ∧ Says c start fs wt true e m) ∨ (matchAt c.text c.lim ws pos = none ∧ Says c start fs wt false 0 m)) ((c.lim + 1) * (cost ws + 2) + 2) := by
  obtain ⟨s1, e1⟩ := at_step (c := c) (start := start) (pos := pos) (handed := handed) (om := om) (fs := fs) (wt := wt) (sn := sn) P.at0.1 P.at0.2.1 P.at0.2.2
  rw [show (c.lim + 1) * (cost ws + 2) + 2 = ((c.lim + 1) * (cost ws + 2) + 1) + 1 by omega]
  refine Reach.step rfl ?_
  rw [e1]
  unfold matchAt
  by_cases hls : lineStart c.text pos = true
  · rw [if_pos hls, if_pos hls]
    obtain ⟨s2, e2⟩ := rep_step (c := c) (start := start) (pos := pos) (handed := handed) (om := om) (fs := fs) (wt := wt) (sn := s1) P.rep hp hl (by omega)
    refine Reach.step rfl ?_
    rw [e2]
    have hle := blk_le c.text (c.lim - pos) pos
    refine (give_run P (blk c.text (c.lim - pos) pos) (pos + blk c.text (c.lim - pos) pos) _ s2 (fun k hk => ?_) (by omega) hw).mono (Nat.mul_le_mul_right _ (by omega))
    rw [show pos + blk c.text (c.lim - pos) pos - blk c.text (c.lim - pos) pos + k = pos + k by omega]
    exact blk_blank _ _ _ _ hk
  · rw [if_neg hls, if_neg hls]
    exact ⟨0, Nat.zero_le _, .inr ⟨rfl, p0, pos, handed, om, s1, rfl, fun q => by cases q⟩⟩
end
end Mine.Re
end
noncomputable section
set_option Elab.async false
set_option linter.all false
set_option maxRecDepth 100000
namespace Mine.Re
open PySem PySem.Sre

noncomputable def ns (p0 s : Nat) (om : Bool) : Sre.Frame := { wait := .nextStart, pc := p0, pos := s, outermost := om }
/-- the first of n + 1 places where the pattern matches, and the match's end -/
noncomputable def firstM (text : Array Nat) (lim : Nat) (ws : List (List Nat)) : Nat → Nat → Option (Nat × Nat)
  | 0, s => (matchAt text lim ws s).map fun e => (s, e)
  | n + 1, s => match matchAt text lim ws s with
    | some e => some (s, e)
    | none => firstM text lim ws n (s + 1)
/-- the run is over -/
noncomputable def Fin (r : Option (Nat × Nat)) (m : M) : Prop := match r with
  | some (s, e) => m.outcome = some .matched ∧ m.start = s ∧ m.handed = e ∧ m.marks = #[] ∧ m.lastmark = -1 ∧ m.lastindex = -1
  | none => m.outcome = some .failed

section
variable {c : Cf} {start pc pos handed wt : Nat} {om : Bool} {fs : List Sre.Frame} {sn : Seen} {ws : List (List Nat)} {p0 E : Nat}

theorem end_step {b : Bool} : Reach (st c start pc pos handed om [] 0 (some b) sn) (fun m => m = { st c start pc pos handed om [] 0 (some b) sn with outcome := some (if b = true then .matched else .failed) }) 1 := by
  refine Reach.step rfl ⟨0, Nat.le_refl _, ?_⟩
  show M.runFor 0 (M.step _) = _
  unfold M.runFor M.step
  rw [if_neg (by show ¬ (none : Option Sre.Outcome).isSome = true; decide)]
  rfl

theorem from_eq (h : c.code.getD 2 0 = 0) (s : Nat) (first : Bool) : (st c start p0 pos handed om [] 0 none sn).attemptFrom s first = st c s p0 s s first [ns p0 s first] 1 none sn := by
  unfold M.attemptFrom
  have hf : (st c start p0 pos handed om [] 0 none sn).hasFirstSet = false := by
    have e : (c.code.getD 2 0 == 4) = false := by rw [h]; rfl
    exact (congrArg (and _) e).trans (Bool.and_false _)
  rw [hf]
  rfl

theorem resume_ns {b : Bool} {s p' q' h' : Nat} {om' : Bool} (h : c.code.getD 2 0 = 0) :
    (st c start p' q' h' om' [ns p0 s om] 1 (some b) sn).step = if b = true then st c start p0 s h' om [] 0 (some true) sn else if s < c.ls then st c (s + 1) p0 (s + 1) (s + 1) false [ns p0 (s + 1) false] 1 none sn else st c start p0 s h' om [] 0 (some false) sn := by
  unfold M.step
  rw [if_neg (by show ¬ (none : Option Sre.Outcome).isSome = true; decide)]
  show M.resume (st c start p0 s h' om [] 0 none sn) (ns p0 s om) b = _
  unfold M.resume
  cases b with
  | true => rfl
  | false =>
    show (if s < c.ls then (st c start p0 s h' om [] 0 none sn).attemptFrom (s + 1) false else st c start p0 s h' om [] 0 (some false) sn) = (if s < c.ls then _ else _)
    by_cases hs : s < c.ls
    · rw [if_pos hs, if_pos hs, from_eq h]
    · rw [if_neg hs, if_neg hs]

theorem cost_c (B K : Nat) : B + (K + 4) = (K + 2) + ((1 + B) + 1) := by omega
theorem search_run (P : Pat c.code ws p0 E) (h : c.code.getD 2 0 = 0) (hl : c.lim < 4294967295) (hls : c.ls ≤ c.lim) : ∀ (n s : Nat) (om : Bool) (sn : Seen), s + n = c.ls →
    Reach (st c s p0 s s om [ns p0 s om] 1 none sn) (Fin (firstM c.text c.lim ws n s)) ((n + 1) * ((c.lim + 1) * (cost ws + 2) + 4)) := by
  intro n
  induction n with
  | zero =>
    intro s om sn hs
    have key := match_run (c := c) (start := s) (pos := s) (handed := s) (om := om) (fs := [ns p0 s om]) (wt := 1) (sn := sn) P (by omega) hl (by omega)
    rw [show (0 + 1) * ((c.lim + 1) * (cost ws + 2) + 4) = ((c.lim + 1) * (cost ws + 2) + 2) + (1 + 1) from Nat.one_mul _]
    refine key.bind fun m hm => ?_
    rcases hm with ⟨e, he, p', q', h', om', sn', rfl, hh⟩ | ⟨he, p', q', h', om', sn', rfl, _⟩
    · refine Reach.step rfl ?_
      rw [resume_ns h, if_pos rfl]
      obtain ⟨k, hk, q⟩ := end_step (c := c) (start := s) (pc := p0) (pos := s) (handed := h') (om := om) (sn := sn') (b := true)
      refine ⟨k, hk, ?_⟩
      rw [q]
      show Fin ((matchAt c.text c.lim ws s).map fun e => (s, e)) _
      rw [he]
      exact ⟨rfl, rfl, hh rfl, rfl, rfl, rfl⟩
    · refine Reach.step rfl ?_
      rw [resume_ns h, if_neg (by decide), if_neg (by omega)]
      obtain ⟨k, hk, q⟩ := end_step (c := c) (start := s) (pc := p0) (pos := s) (handed := h') (om := om) (sn := sn') (b := false)
      refine ⟨k, hk, ?_⟩
      rw [q]
      show Fin ((matchAt c.text c.lim ws s).map fun e => (s, e)) _
      rw [he]
      exact rfl
  | succ n ih =>
    intro s om sn hs
    have key := match_run (c := c) (start := s) (pos := s) (handed := s) (om := om) (fs := [ns p0 s om]) (wt := 1) (sn := sn) P (by omega) hl (by omega)
    have hc : (n + 1 + 1) * ((c.lim + 1) * (cost ws + 2) + 4) = ((c.lim + 1) * (cost ws + 2) + 2) + ((1 + (n + 1) * ((c.lim + 1) * (cost ws + 2) + 4)) + 1) := by rw [Nat.succ_mul (n + 1)]; exact cost_c _ _
    rw [hc]
    refine key.bind fun m hm => ?_
    rcases hm with ⟨e, he, p', q', h', om', sn', rfl, hh⟩ | ⟨he, p', q', h', om', sn', rfl, _⟩
    · refine Reach.step rfl ?_
      rw [resume_ns h, if_pos rfl]
      obtain ⟨k, hk, q⟩ := end_step (c := c) (start := s) (pc := p0) (pos := s) (handed := h') (om := om) (sn := sn') (b := true)
      refine ⟨k, by omega, ?_⟩
      rw [q]
      show Fin (match matchAt c.text c.lim ws s with | some e => some (s, e) | none => firstM c.text c.lim ws n (s + 1)) _
      rw [he]
      exact ⟨rfl, rfl, hh rfl, rfl, rfl, rfl⟩
    · refine Reach.step rfl ?_
      rw [resume_ns h, if_neg (by decide), if_pos (by omega)]
      obtain ⟨k, hk, q⟩ := ih (s + 1) false sn' (by omega)
      refine ⟨k, by omega, ?_⟩
      show Fin (match matchAt c.text c.lim ws s with | some e => some (s, e) | none => firstM c.text c.lim ws n (s + 1)) _
      rw [he]
      exact q
end

/-- what a search finds -/
noncomputable def searchR (text : Array Nat) (ws : List (List Nat)) (pos lim : Nat) : Option (Nat × Nat) :=
  if lim < pos + 3 then none else firstM text lim ws (lim - 2 - pos) pos

theorem forSearch_run {code text : Array Nat} {ws : List (List Nat)} {E pos lim : Nat} (P : Pat code ws 5 E) (h0 : code.getD 0 0 = 14) (h1 : code.getD 1 0 = 4) (h2 : code.getD 2 0 = 0) (h3 : code.getD 3 0 = 3) (hl : lim < 4294967295) :
    Reach (forSearch code text 0 pos lim false) (Fin (searchR text ws pos lim)) ((lim + 1) * ((lim + 1) * (cost ws + 2) + 4) + 1) := by
  have hh : header code = (3, 5) := by unfold header; rw [h0]; show (code.getD 3 0, 1 + code.getD 1 0) = _; rw [h3, h1]
  have e0 : ∀ hd : Nat × Nat, header code = hd → forSearch code text 0 pos lim false = if (decide (pos > lim) || decide (lim - pos < hd.1)) = true then st ⟨code, text, lim, 0⟩ pos hd.2 pos pos true [] 0 (some false) (if (hd.2 == 0) = true then {} else ({} : Seen).add 14)
      else (st ⟨code, text, lim, if (decide (hd.1 > 1) && !(hd.2 != 0 && (code.getD 2 0 &&& 5) != 0)) = true then max pos (lim - (hd.1 - 1)) else lim⟩ pos hd.2 pos pos true [] 0 none (if (hd.2 == 0) = true then {} else ({} : Seen).add 14)).attemptFrom pos true := by
    intro hd e
    subst e
    rfl
  rw [e0 _ hh]
  unfold searchR
  dsimp only
  by_cases hs : lim < pos + 3
  · rw [if_pos (by simp; omega), if_pos hs]
    obtain ⟨k, hk, q⟩ := end_step (c := ⟨code, text, lim, 0⟩) (start := pos) (pc := 5) (pos := pos) (handed := pos) (om := true) (sn := if ((5 : Nat) == 0) = true then {} else ({} : Seen).add 14) (b := false)
    refine ⟨k, by omega, ?_⟩
    rw [q]; rfl
  · rw [if_neg (by simp; omega), if_neg hs]
    have hls : (if (decide ((3 : Nat) > 1) && !((5 : Nat) != 0 && (code.getD 2 0 &&& 5) != 0)) = true then max pos (lim - (3 - 1)) else lim) = lim - 2 := by
      rw [h2]
      rw [if_pos (by decide)]
      omega
    rw [hls]
    rw [from_eq (c := ⟨code, text, lim, lim - 2⟩) h2]
    have := search_run (c := ⟨code, text, lim, lim - 2⟩) P h2 hl (by show lim - 2 ≤ lim; omega) (lim - 2 - pos) pos true (if ((5 : Nat) == 0) = true then {} else ({} : Seen).add 14) (by show pos + (lim - 2 - pos) = lim - 2; omega)
    refine this.mono ?_
    refine Nat.le_trans (Nat.mul_le_mul_right _ (?_ : lim - 2 - pos + 1 ≤ lim + 1)) (Nat.le_succ _)
    omega
end Mine.Re
end
noncomputable section
set_option Elab.async false
set_option linter.all false
set_option maxRecDepth 100000
namespace Mine.Re
open PySem PySem.Sre PySem.Builtin.Re

section
variable {M' : Model} {A : Around} {E : Value → Shared → Prop} {s : Shared}

theorem drive_ok : ∀ (T : Nat) (m : M) (n : Nat) {Q : M → Shared → Prop}, (M.runFor n m).outcome.isSome = true → n ≤ 4 * T → 1 ≤ T → Q (M.runFor n m) s → wpAny M' A (reDrive T m) Q E s
  | 0, m, n, Q, h, hn, h1, hQ => by omega
  | T + 1, m, n, Q, h, hn, h1, hQ => by
    unfold reDrive
    show wpAny M' A (if (M.runFor 4 m).outcome.isSome = true then pure (M.runFor 4 m) else do rule "sre.turn"; reDrive T (M.runFor 4 m)) Q E s
    by_cases h4 : (M.runFor 4 m).outcome.isSome = true
    · rw [if_pos h4]
      have e : M.runFor n m = M.runFor 4 m := by
        by_cases hle : 4 ≤ n
        · rw [show n = 4 + (n - 4) by omega, runFor_add, runFor_done h4]
        · rw [show (4 : Nat) = n + (4 - n) by omega, runFor_add, runFor_done h]
      rw [e] at hQ
      exact wpAny_pure hQ
    · rw [if_neg h4]
      have hlt : 4 < n := by
        refine Nat.not_le.mp fun hle => h4 ?_
        rw [show (4 : Nat) = n + (4 - n) by omega, runFor_add, runFor_done h]; exact h
      have e : M.runFor n m = M.runFor (n - 4) (M.runFor 4 m) := by
        conv => lhs; rw [show n = 4 + (n - 4) by omega]
        rw [runFor_add]
      rw [e] at h hQ
      exact wpAny_bind (wpAny_rule (drive_ok T _ (n - 4) h (by omega) (by omega) hQ))

theorem rules_ok {c : Nat → Bool} {nm : Nat → String} : ∀ (l : List Nat) {Q : PUnit → Shared → Prop}, Q ⟨⟩ s → wpAny M' A (forIn l PUnit.unit fun i r => if c i = true then do rule (nm i); pure (ForInStep.yield PUnit.unit) else pure (ForInStep.yield PUnit.unit)) Q E s
  | [], Q, h => by rw [List.forIn_nil]; exact wpAny_pure h
  | i :: l, Q, h => by
    rw [List.forIn_cons]
    refine wpAny_bind ?_
    by_cases hc : c i = true
    · rw [if_pos hc]; exact wpAny_bind (wpAny_rule (wpAny_pure (rules_ok l h)))
    · rw [if_neg hc]; exact wpAny_pure (rules_ok l h)

theorem end_ok {m : M} {r : Option (Nat × Nat)} {k : Nat} (h : Reach m (Fin r) k) (hk : k ≤ 4 * 2 ^ 64) {Q : Option M → Shared → Prop}
    (hs : ∀ m' p e, r = some (p, e) → m'.start = p → m'.handed = e → m'.marks = #[] → m'.lastmark = -1 → m'.lastindex = -1 → Q (some m') s) (hn : r = none → Q none s) : wpAny M' A (reRunToEnd m) Q E s := by
  obtain ⟨n, hn', hf⟩ := h
  unfold reRunToEnd
  have ho : (M.runFor n m).outcome.isSome = true := by
    cases r with
    | none => have : (M.runFor n m).outcome = some .failed := hf; rw [this]; rfl
    | some x => have : (M.runFor n m).outcome = some .matched := hf.1; rw [this]; rfl
  refine wpAny_bind (drive_ok (2 ^ 64) m n ho (by omega) (by decide) ?_)
  refine wpAny_bind (rules_ok _ ?_)
  cases r with
  | none =>
    have e : (M.runFor n m).outcome = some .failed := hf
    rw [e]
    exact wpAny_pure (hn rfl)
  | some x =>
    obtain ⟨p, q⟩ := x
    obtain ⟨e, h1, h2, h3, h4, h5⟩ := hf
    rw [e]
    exact wpAny_pure (hs _ p q rfl h1 h2 h3 h4 h5)
end

noncomputable def code1 : Array Nat := #[14, 4, 0, 3, 4294967295, 6, 1, 24, 11, 0, 4294967295, 13, 6, 16, 32, 16, 9, 0, 1, 7, 13, 16, 119, 16, 104, 16, 105, 16, 108, 16, 101, 15, 173, 11, 16, 101, 16, 108, 16, 115, 16, 101, 15, 162, 9, 16, 100, 16, 101, 16, 102, 15, 153, 15, 16, 114, 16, 101, 16, 116, 16, 117, 16, 114, 16, 110, 15, 138, 15, 16, 97, 16, 115, 16, 115, 16, 101, 16, 114, 16, 116, 15, 123, 13, 16, 98, 16, 114, 16, 101, 16, 97, 16, 107, 15, 110, 13, 16, 99, 16, 108, 16, 97, 16, 115, 16, 115, 15, 97, 19, 16, 99, 16, 111, 16, 110, 16, 116, 16, 105, 16, 110, 16, 117, 16, 101, 15, 78, 11, 16, 101, 16, 108, 16, 105, 16, 102, 15, 67, 9, 16, 116, 16, 114, 16, 121, 15, 58, 15, 16, 101, 16, 120, 16, 99, 16, 101, 16, 112, 16, 116, 15, 43, 13, 16, 114, 16, 97, 16, 105, 16, 115, 16, 101, 15, 30, 15, 16, 105, 16, 109, 16, 112, 16, 111, 16, 114, 16, 116, 15, 15, 13, 16, 121, 16, 105, 16, 101, 16, 108, 16, 100, 15, 2, 0, 6, 10, 1]
/-- while, else, def, return, assert, break, class, continue, elif, try, except, raise, and so on -/
noncomputable def words1 : List (List Nat) := [[119, 104, 105, 108, 101], [101, 108, 115, 101], [100, 101, 102], [114, 101, 116, 117, 114, 110], [97, 115, 115, 101, 114, 116], [98, 114, 101, 97, 107], [99, 108, 97, 115, 115], [99, 111, 110, 116, 105, 110, 117, 101], [101, 108, 105, 102], [116, 114, 121], [101, 120, 99, 101, 112, 116], [114, 97, 105, 115, 101], [105, 109, 112, 111, 114, 116], [121, 105, 101, 108, 100]]

/-- decidable forms -/
noncomputable def litsB (code : Array Nat) : Nat → List Nat → Bool
  | _, [] => true
  | pc, d :: r => decide (pc < code.size) && code.getD pc 0 == 16 && code.getD (pc + 1) 0 == d && litsB code (pc + 2) r
theorem litsB_ok {code : Array Nat} : ∀ {pc : Nat} {w : List Nat}, litsB code pc w = true → Lits code pc w
  | _, [], _ => trivial
  | pc, d :: r, h => by
    replace h : (decide (pc < code.size) && code.getD pc 0 == 16 && code.getD (pc + 1) 0 == d && litsB code (pc + 2) r) = true := h
    simp only [Bool.and_eq_true, decide_eq_true_eq, beq_iff_eq] at h
    exact ⟨h.1.1.1, h.1.1.2, h.1.2, litsB_ok h.2⟩
noncomputable def altsB (code : Array Nat) (E : Nat) : Nat → List (List Nat) → Bool
  | alt, [] => code.getD alt 0 == 0
  | alt, w :: r => code.getD alt 0 == 2 * w.length + 3 && litsB code (alt + 1) w && decide (alt + 1 + 2 * w.length < code.size) && code.getD (alt + 1 + 2 * w.length) 0 == 15 && alt + 1 + 2 * w.length + 1 + code.getD (alt + 1 + 2 * w.length + 1) 0 == E && altsB code E (alt + 2 * w.length + 3) r
theorem altsB_ok {code : Array Nat} {E : Nat} : ∀ {alt : Nat} {ws : List (List Nat)}, altsB code E alt ws = true → Alts code E alt ws
  | alt, [], h => by
    have h' : (code.getD alt 0 == 0) = true := h
    exact (beq_iff_eq.mp h' : code.getD alt 0 = 0)
  | alt, w :: r, h => by
    replace h : (code.getD alt 0 == 2 * w.length + 3 && litsB code (alt + 1) w && decide (alt + 1 + 2 * w.length < code.size) && code.getD (alt + 1 + 2 * w.length) 0 == 15 && alt + 1 + 2 * w.length + 1 + code.getD (alt + 1 + 2 * w.length + 1) 0 == E && altsB code E (alt + 2 * w.length + 3) r) = true := h
    simp only [Bool.and_eq_true, decide_eq_true_eq, beq_iff_eq] at h
    obtain ⟨⟨⟨⟨⟨h1, h2⟩, h3⟩, h4⟩, h5⟩, h6⟩ := h
    exact ⟨h1, litsB_ok h2, h3, h4, h5, altsB_ok h6⟩

theorem pat1 : Pat code1 words1 5 205 where
  at0 := by decide +kernel
  rep := ⟨by decide +kernel, by decide +kernel, by decide +kernel, by decide +kernel, by decide +kernel, by decide +kernel, by decide +kernel, by decide +kernel, by decide +kernel, by decide +kernel, by decide +kernel, by decide +kernel⟩
  br := by decide +kernel
  alts := altsB_ok (by decide +kernel)
  tail := ⟨by decide +kernel, by decide +kernel, by decide +kernel, by decide +kernel, by decide +kernel⟩
  words := fun w hw => by
    have : words1.all (fun w => match w with | d :: _ => !isBlank d | [] => false) = true := by decide +kernel
    have := List.all_eq_true.mp this w hw
    cases w with
    | nil => cases this
    | cons d r => exact ⟨d, r, rfl, by simpa using this⟩

theorem search1 {M' : Model} {A : Around} {E : Value → Shared → Prop} {s : Shared} {text : Array Nat} {pos lim : Nat} (hl : lim ≤ sizeLine) {Q : Option M → Shared → Prop}
    (hs : ∀ m' p e, searchR text words1 pos lim = some (p, e) → m'.start = p → m'.handed = e → m'.marks = #[] → m'.lastmark = -1 → m'.lastindex = -1 → Q (some m') s) (hn : searchR text words1 pos lim = none → Q none s) :
    wpAny M' A (reRunToEnd (forSearch code1 text 0 pos lim false)) Q E s := by
  have hz : sizeLine = 16777216 := by decide
  refine end_ok (forSearch_run pat1 (by decide +kernel) (by decide +kernel) (by decide +kernel) (by decide +kernel) (by omega)) ?_ hs hn
  have hc : cost words1 = 127 := by decide +kernel
  rw [hc]
  have h1 : (lim + 1) * (127 + 2) + 4 ≤ 16777217 * 129 + 4 := by omega
  have h2 := Nat.mul_le_mul (show lim + 1 ≤ 16777217 by omega) h1
  have h3 : 16777217 * (16777217 * 129 + 4) + 1 ≤ 4 * 2 ^ 64 := by decide
  omega
end Mine.Re
end
noncomputable section
set_option Elab.async false
set_option linter.all false
set_option maxRecDepth 100000
namespace Mine.Re
open PySem PySem.Sre PySem.Builtin.Re PyProof.Rows

noncomputable def boundObj (id : String) (a : Addr) : Obj := { cls := .type "builtin_function_or_method", data := .fields #[.builtin id, .ref a] }
/-- a compiled pattern, in the heap -/
structure PatAt (h : Heap) (pt : Addr) (code : Array Nat) : Prop where
  at_ : ∃ op fs ct, h.get? pt = some op ∧ op.cls = .type "re.Pattern" ∧ op.data = .fields fs ∧ reRawNat (fs.getD 6 .none) = 0 ∧ reRawNat (fs.getD 2 .none) = 0 ∧ fs.getD 5 .none = .ref ct ∧
    ∃ oc items e, h.get? ct = some oc ∧ oc.data = .seq items e ∧ (items.map reRawOf).map (·.toNat) = code

theorem entry_search : entryFor table "re.Pattern.search" = some Builtin.«re.Pattern.search» := entryFor_of_tree (by kernel_rfl)
theorem quiet_search {as : Args} : (Code.builtin "re.Pattern.search" as).quiet = true := Code.quiet_builtin _ (by decide +kernel)
theorem sig_search : Manifest.signature? "re.Pattern.search" = some ⟨.keywords, "Pattern.search", "search", .self, [⟨"string", .posOrKw, true⟩, ⟨"pos", .posOrKw, false⟩, ⟨"endpos", .posOrKw, false⟩]⟩ := by kernel_rfl
theorem kind_search : builtinKind "re.Pattern.search" = some .method := by kernel_rfl

/-- the place and the limit that are asked for -/
noncomputable def posOf : List Int → Int
  | i :: _ => i
  | [] => 0
noncomputable def limOf : List Int → Int
  | _ :: l :: _ => l
  | _ => 2 ^ 63 - 1

inductive IntArgs : List Int → List Value → Prop
  | nil : IntArgs [] []
  | one (i : Int) (t : Tok) : IntArgs [i] [.int i t]
  | two (i l : Int) (t u : Tok) : IntArgs [i, l] [.int i t, .int l u]

theorem check_search {self : Value} {x : PySem.Str} {t : Tok} {is : List Int} {rest : List Value} (h : IntArgs is rest) :
    Bind.checkArgs "re.Pattern.search" ⟨.keywords, s!"{Bind.lastOf "re.Pattern"}.{Bind.lastOf "re.Pattern.search"}", "search", .self, [⟨"string", .posOrKw, true⟩, ⟨"pos", .posOrKw, false⟩, ⟨"endpos", .posOrKw, false⟩]⟩ ⟨self :: .str x t :: rest, []⟩ = pure () := by
  cases h <;> first | rfl | kernel_rfl

section
variable {prog : Program} {w : World} {A : Around} {E : Value → Shared → Prop} {s : Shared}

theorem bound_check {pt : Addr} {x : PySem.Str} {t : Tok} {is : List Int} {rest : List Value} {code : Array Nat} {M : Model} (P : PatAt s.heap pt code) (h : IntArgs is rest) {Q : Unit → Shared → Prop} (hQ : Q () s) :
    wpAny M A (checkBoundCall "re.Pattern.search" ⟨.ref pt :: .str x t :: rest, []⟩) Q E s := by
  obtain ⟨op, fs, ct, h1, h2, h3, _⟩ := P.at_
  have hT : s.TypeIs (.ref pt) "re.Pattern" := ⟨op, h1, h2⟩
  unfold checkBoundCall
  rw [sig_search, kind_search]
  dsimp only
  rw [if_neg (by decide)]
  refine wpAny_bind (wpAny_isInstance (b := false) hT (by rw [isSubtype_type]; kernel_rfl) ?_)
  rw [if_neg (by decide +kernel)]
  refine wpAny_bind (wpAny_bind ?_)
  unfold loadHead
  refine wpAny_load h1 (wpAny_pure ?_)
  rw [h3]
  rw [if_neg (fun q => by cases q)]
  refine wpAny_bind (wpAny_typeOf hT ?_)
  exact wpAny_of_eq (check_search h) hQ

theorem reNamed_ok {id f : String} {x : PySem.Str} {t : Tok} {is : List Int} {rest : List Value} (h : IntArgs is rest) : reNamed id f ["string", "pos", "endpos"] 1 (.str x t :: rest) [] = pure [some (.str x t), rest[0]?, rest[1]?] := by
  cases h <;> rfl
theorem ssize_ok {M : Model} {i : Int} {t : Tok} {Q : Int → Shared → Prop} (h1 : -(2 ^ 63) ≤ i) (h2 : i < 2 ^ 63) (hQ : Q i s) : wpAny M A (reSsize (.int i t)) Q E s := by
  unfold reSsize
  refine wpAny_bind (wpAny_of_eq (a := i) rfl ?_)
  rw [if_neg (by simp; omega)]
  exact wpAny_pure hQ

theorem tail_ok {M : Model} {pt : Addr} {x : PySem.Str} {t : Tok} {code : Array Nat} {pos lim : Int} (P : PatAt s.heap pt code) {Q : ReTarget → Shared → Prop}
    (hQ : Q { pattern := .ref pt, string := .str x t, code := code, text := x.cps, kind := 0, groups := 0, pos := min pos.toNat x.cps.size, lim := min lim.toNat x.cps.size } s) :
    wpAny M A (do
      let fs ← fieldsOf (.ref pt)
      let (text, kind) ← reTextOf (.str x t)
      let want := reRawNat (fs.getD 6 .none)
      if want == 0 && kind == 1 then raiseError "TypeError" "cannot use a string pattern on a bytes-like object"
      if want == 1 && kind == 0 then raiseError "TypeError" "cannot use a bytes pattern on a string-like object"
      reNoCollectionInside (.str x t) kind
      let clip (i : Int) : Nat := min i.toNat text.size
      pure { pattern := .ref pt, string := .str x t, code := (← reRawItems (fs.getD 5 .none)).map (·.toNat), text, kind, groups := reRawNat (fs.getD 2 .none), pos := clip pos, lim := clip lim }) Q E s := by
  obtain ⟨op, fs, ct, h1, h2, h3, h4, h5, h6, oc, items, e, h7, h8, h9⟩ := P.at_
  refine wpAny_bind (wpAny_fieldsOf h1 h3 ?_)
  refine wpAny_bind (wpAny_of_eq (a := (x.cps, 0)) rfl ?_)
  dsimp only
  rw [h4]
  rw [if_neg (by decide), if_neg (by decide)]
  refine wpAny_bind (wpAny_of_eq (a := ()) rfl ?_)
  rw [h6]
  refine wpAny_bind ?_
  unfold reRawItems
  refine wpAny_bind (wpAny_seqItems h7 h8 (wpAny_pure ?_))
  refine wpAny_pure ?_
  dsimp only [Option.getD]
  rw [h9, h5]
  exact hQ

theorem target_ok {M : Model} {pt : Addr} {x : PySem.Str} {t : Tok} {is : List Int} {rest : List Value} {code : Array Nat} {id f : String} (P : PatAt s.heap pt code) (h : IntArgs is rest) (hp1 : -(2 ^ 63) ≤ posOf is) (hp2 : posOf is < 2 ^ 63) (hl1 : -(2 ^ 63) ≤ limOf is) (hl2 : limOf is < 2 ^ 63) {Q : ReTarget → Shared → Prop}
    (hQ : Q { pattern := .ref pt, string := .str x t, code := code, text := x.cps, kind := 0, groups := 0, pos := min (posOf is).toNat x.cps.size, lim := min (limOf is).toNat x.cps.size } s) :
    wpAny M A (reTarget id f ⟨.ref pt :: .str x t :: rest, []⟩) Q E s := by
  unfold reTarget
  dsimp only
  refine wpAny_bind (wpAny_of_eq (reNamed_ok h) ?_)
  dsimp only
  cases h with
  | nil => refine wpAny_bind (wpAny_pure ?_); refine wpAny_bind (wpAny_pure ?_); exact tail_ok P hQ
  | one i u => refine wpAny_bind (ssize_ok hp1 hp2 ?_); refine wpAny_bind (wpAny_pure ?_); exact tail_ok P hQ
  | two i l u v => refine wpAny_bind (ssize_ok hp1 hp2 ?_); refine wpAny_bind (ssize_ok hl1 hl2 ?_); exact tail_ok P hQ
end
end Mine.Re
end
noncomputable section
set_option Elab.async false
set_option linter.all false
set_option maxRecDepth 100000
namespace Mine.Re
open PySem PySem.Sre PySem.Builtin.Re PyProof.Rows

noncomputable def tupObj (p e : Nat) : Obj := { cls := .type "tuple", data := .seq #[rawInt p, rawInt e] }
noncomputable def matchObj (x : PySem.Str) (t : Tok) (pt tp : Addr) (pos lim : Nat) : Obj := { cls := .type "re.Match", data := .fields #[.str x t, .ref pt, rawInt pos, rawInt lim, rawInt (-1), .ref tp] }

section
variable {prog : Program} {w : World} {A : Around} {E : Value → Shared → Prop} {s : Shared} {M : Model}

theorem newMatch_ok {pt : Addr} {x : PySem.Str} {t : Tok} {pos lim p e : Nat} {m : Sre.M} (h1 : m.start = p) (h2 : m.handed = e) (h3 : m.lastindex = -1) {Q : Value → Shared → Prop}
    (hQ : Q (.ref (s.heap.objs.size + 1)) { s with heap := (s.heap.push (tupObj p e)).push (matchObj x t pt s.heap.objs.size pos lim) }) : wpAny M A (reNewMatch (.ref pt) (.str x t) 0 pos lim m) Q E s := by
  unfold reNewMatch
  rw [if_neg (by simp)]
  refine wpAny_bind (wpAny_newObj_type ?_ (by show (2 : Nat) ≤ sizeLine; decide))
  unfold newFields
  refine wpAny_newObj_type ?_ (by show (6 : Nat) ≤ sizeLine + 2; decide)
  have hz : ∀ o : Obj, (s.heap.push o).objs.size = s.heap.objs.size + 1 := fun o => Heap.size_push ..
  dsimp only
  rw [hz]
  rw [h1, h2, h3]
  exact hQ

theorem tree_search {pt : Addr} {x : PySem.Str} {t : Tok} {is : List Int} {rest : List Value} (P : PatAt s.heap pt code1) (h : IntArgs is rest) (hx : x.length ≤ sizeLine) (hp1 : -(2 ^ 63) ≤ posOf is) (hp2 : posOf is < 2 ^ 63) (hl1 : -(2 ^ 63) ≤ limOf is) (hl2 : limOf is < 2 ^ 63) {Q : PySem.Fin → Shared → Prop}
    (hs : ∀ p e, searchR x.cps words1 (min (posOf is).toNat x.cps.size) (min (limOf is).toNat x.cps.size) = some (p, e) →
      Q (.done (.ret (.ref (s.heap.objs.size + 1)))) { s with heap := (s.heap.push (tupObj p e)).push (matchObj x t pt s.heap.objs.size (min (posOf is).toNat x.cps.size) (min (limOf is).toNat x.cps.size)) })
    (hn : searchR x.cps words1 (min (posOf is).toNat x.cps.size) (min (limOf is).toNat x.cps.size) = none → Q (.done (.ret .none)) s) :
    wpAny M A (Builtin.«re.Pattern.search» ⟨.ref pt :: .str x t :: rest, []⟩) Q E s := by
  unfold Builtin.«re.Pattern.search»
  refine wpAny_bind (target_ok P h hp1 hp2 hl1 hl2 ?_)
  unfold reAnswer
  have hlen : x.cps.size ≤ sizeLine := hx
  refine wpAny_bind (search1 (by show min (limOf is).toNat x.cps.size ≤ sizeLine; omega) (fun m' p e hr h1 h2 h3 h4 h5 => ?_) fun hr => ?_)
  · dsimp only
    exact wpAny_bind (newMatch_ok h1 h2 h5 (wpAny_pure (hs p e hr)))
  · exact wpAny_pure (hn hr)

theorem call_search {b pt : Addr} {x : PySem.Str} {t : Tok} {is : List Int} {rest : List Value} (hb : s.heap.get? b = some (boundObj "re.Pattern.search" pt)) (P : PatAt s.heap pt code1) (h : IntArgs is rest) (hx : x.length ≤ sizeLine) (hp1 : -(2 ^ 63) ≤ posOf is) (hp2 : posOf is < 2 ^ 63) (hl1 : -(2 ^ 63) ≤ limOf is) (hl2 : limOf is < 2 ^ 63) {Q : Value → Shared → Prop}
    (hs : ∀ p e, searchR x.cps words1 (min (posOf is).toNat x.cps.size) (min (limOf is).toNat x.cps.size) = some (p, e) →
      Q (.ref (s.heap.objs.size + 1)) { s with heap := (s.heap.push (tupObj p e)).push (matchObj x t pt s.heap.objs.size (min (posOf is).toNat x.cps.size) (min (limOf is).toNat x.cps.size)) })
    (hn : searchR x.cps words1 (min (posOf is).toNat x.cps.size) (min (limOf is).toNat x.cps.size) = none → Q .none s) :
    wpAny (model prog w) A (call (.ref b) (.str x t :: rest)) Q E s := by
  refine wpAny_call (codeAny_of_tree ?_)
  show wpAny _ A.in1 (callAny (.ref b) ⟨.str x t :: rest, []⟩) _ _ s
  refine wpAny_bind (wpAny_load hb ?_)
  show wpAny _ _ (if (Value.type "builtin_function_or_method" == Value.type "method" || Value.type "builtin_function_or_method" == Value.type "builtin_function_or_method" || Value.type "builtin_function_or_method" == Value.type "method-wrapper") = true then _ else _) _ _ _
  rw [if_pos (by decide)]
  show wpAny _ _ (if (Value.type "builtin_function_or_method" != Value.type "method") = true then _ else _) _ _ _
  rw [if_pos (by decide)]
  refine wpAny_bind (bound_check P h ?_)
  refine wpAny_bind (wpAny_pure (wpAny_pure ?_))
  refine ⟨quiet_search, codeAny_builtin entry_search (tree_search P h hx hp1 hp2 hl1 hl2 ?_ ?_)⟩
  · intro p e hr; exact hs p e hr
  · intro hr; exact hn hr

theorem keeper_bound {b pt : Addr} {id : String} (hb : s.heap.get? b = some (boundObj id pt)) {Q : Keeper → Shared → Prop} (hQ : ∀ k, Q k s) : wpAny M A (keeperOf (.ref b)) Q E s := by
  unfold keeperOf
  refine wpAny_bind (wpAny_load hb ?_)
  exact wpAny_pure (hQ _)
end
end Mine.Re
end
noncomputable section
set_option Elab.async false
set_option linter.all false
set_option maxRecDepth 100000
namespace Mine.Re
open PySem PySem.Sre PySem.Builtin.Re PyProof.Rows

theorem plainAttrs_match : PlainAttrs "re.Match" :=
  ⟨⟨"object.__getattribute__", by rw [typeLookup_type, builtinLookup_eq_fast]; kernel_rfl, by decide +kernel⟩, by rw [typeLookup_type, builtinLookup_eq_fast]; kernel_rfl⟩
theorem slot_start : Slot "re.Match" "start" "re.Match.start" :=
  .of (owner := "re.Match") (n := "start") (by rw [typeLookup_type, builtinLookup_eq_fast]; kernel_rfl) (by decide +kernel) (by decide +kernel) (by decide +kernel)
    (by first | exact .inl (by decide +kernel) | exact .inr (by decide +kernel)) (by rw [isSubtype_type]; kernel_rfl)
theorem type_start : typeOf (.builtin "re.Match.start") = pure (.type "method_descriptor") := by show builtinType _ = _; rw [builtinType_eq_fast]; kernel_rfl
theorem entry_start : entryFor table "re.Match.start" = some Builtin.«re.Match.start» := entryFor_of_tree (by kernel_rfl)
theorem owner_match : Manifest.owners.lookup (String.ofList ['h', 'c', 't', 'a', 'M', '.', 'e', 'r'].reverse) = some Manifest.sig_re_Match := by kernel_rfl
theorem args_start (a : Value) : argsOk "re.Match.start" ⟨[a], []⟩ := by
  unfold argsOk; rw [signature?_of (id := "re.Match.start") (n := ['t', 'r', 'a', 't', 's']) (o := ['h', 'c', 't', 'a', 'M', '.', 'e', 'r']) (by kernel_rfl) owner_match]; kernel_rfl
theorem slot_span : Slot "re.Match" "span" "re.Match.span" :=
  .of (owner := "re.Match") (n := "span") (by rw [typeLookup_type, builtinLookup_eq_fast]; kernel_rfl) (by decide +kernel) (by decide +kernel) (by decide +kernel)
    (by first | exact .inl (by decide +kernel) | exact .inr (by decide +kernel)) (by rw [isSubtype_type]; kernel_rfl)
theorem type_span : typeOf (.builtin "re.Match.span") = pure (.type "method_descriptor") := by show builtinType _ = _; rw [builtinType_eq_fast]; kernel_rfl
theorem entry_span : entryFor table "re.Match.span" = some Builtin.«re.Match.span» := entryFor_of_tree (by kernel_rfl)
theorem args_span (a : Value) : argsOk "re.Match.span" ⟨[a], []⟩ := by
  unfold argsOk; rw [signature?_of (id := "re.Match.span") (n := ['n', 'a', 'p', 's']) (o := ['h', 'c', 't', 'a', 'M', '.', 'e', 'r']) (by kernel_rfl) owner_match]; kernel_rfl

section
variable {M : Model} {A : Around} {E : Value → Shared → Prop} {s : Shared}

/-- a match, and where it lies -/
structure MatchAt (h : Heap) (a p e : Nat) : Prop where
  there : ∃ o ot vs items tp e₀ t u, h.get? a = some o ∧ o.cls = .type "re.Match" ∧ o.data = .fields vs ∧ vs.getD 5 .none = .ref tp ∧ h.get? tp = some ot ∧ ot.data = .seq items e₀ ∧ items.toList = [.int p t, .int e u]

theorem found_ok {a p e : Nat} (X : MatchAt s.heap a p e) {Q : ReFound → Shared → Prop} (hQ : ∀ x, x.spans = #[(p : Int), (e : Int)] → Q x s) : wpAny M A (reFound (.ref a)) Q E s := by
  obtain ⟨o, ot, vs, items, tp, e₀, t, u, h1, h2, h3, h4, h5, h6, h7⟩ := X.there
  unfold reFound
  refine wpAny_bind (wpAny_fieldsOf h1 h3 ?_)
  rw [h4]
  refine wpAny_bind ?_
  unfold reRawItems
  refine wpAny_bind (wpAny_seqItems h5 h6 (wpAny_pure ?_))
  refine wpAny_pure (hQ _ ?_)
  dsimp only [Option.getD]
  obtain ⟨l⟩ := items
  have h7' : l = [.int p t, .int e u] := h7
  subst h7'
  simp [reRawOf]

theorem one_ok {a p e : Nat} {name short : String} (X : MatchAt s.heap a p e) {Q : ReFound × Nat → Shared → Prop} (hQ : ∀ x, x.spans = #[(p : Int), (e : Int)] → Q (x, 0) s) : wpAny M A (reOneGroup name short ⟨[.ref a], []⟩) Q E s := by
  unfold reOneGroup
  refine wpAny_bind (wpAny_of_eq (a := (.ref a, [])) rfl ?_)
  dsimp only
  exact wpAny_bind (found_ok X fun x hx => wpAny_bind (wpAny_pure (wpAny_pure (hQ x hx))))

theorem tree_start {a p e : Nat} (X : MatchAt s.heap a p e) {Q : PySem.Fin → Shared → Prop} (hQ : Q (.done (.ret (.int p s.toks))) { s with toks := s.toks + 1 }) : wpAny M A (Builtin.«re.Match.start» ⟨[.ref a], []⟩) Q E s := by
  unfold Builtin.«re.Match.start»
  refine wpAny_bind (one_ok X fun x hx => ?_)
  dsimp only
  rw [hx]
  unfold retInt
  exact wpAny_bind (wpAny_mkInt (wpAny_pure hQ))
theorem tree_span {a p e : Nat} (X : MatchAt s.heap a p e) {Q : PySem.Fin → Shared → Prop}
    (hQ : Q (.done (.ret (.ref s.heap.objs.size))) { s with heap := s.heap.push { cls := .type "tuple", data := .seq #[.int p s.toks, .int e (s.toks + 1)] }, toks := s.toks + 1 + 1 }) : wpAny M A (Builtin.«re.Match.span» ⟨[.ref a], []⟩) Q E s := by
  unfold Builtin.«re.Match.span»
  refine wpAny_bind (one_ok X fun x hx => ?_)
  dsimp only
  rw [hx]
  refine wpAny_bind (wpAny_mkInt (wpAny_bind (wpAny_mkInt (wpAny_bind (wpAny_newTuple ?_ (by show (2 : Nat) ≤ sizeLine; decide))))))
  exact wpAny_pure hQ
end
section
variable {prog : Program} {w : World} {A : Around} {E : Value → Shared → Prop} {s : Shared}
theorem call_start {a p e : Nat} (X : MatchAt s.heap a p e) {Q : Value → Shared → Prop} (hQ : Q (.int p s.toks) { s with toks := s.toks + 1 }) : wpAny (model prog w) A (call (.builtin "re.Match.start") [.ref a]) Q E s := by
  obtain ⟨o, ot, vs, items, tp, e₀, t, u, h1, h2, _⟩ := X.there
  refine wpAny_call_entry slot_start ⟨o, h1, h2⟩ entry_start ?_ (args_start _)
  exact tree_start X ⟨_, rfl, hQ⟩
theorem call_span {a p e : Nat} (X : MatchAt s.heap a p e) {Q : Value → Shared → Prop}
    (hQ : Q (.ref s.heap.objs.size) { s with heap := s.heap.push { cls := .type "tuple", data := .seq #[.int p s.toks, .int e (s.toks + 1)] }, toks := s.toks + 1 + 1 }) : wpAny (model prog w) A (call (.builtin "re.Match.span") [.ref a]) Q E s := by
  obtain ⟨o, ot, vs, items, tp, e₀, t, u, h1, h2, _⟩ := X.there
  refine wpAny_call_entry slot_span ⟨o, h1, h2⟩ entry_span ?_ (args_span _)
  exact tree_span X ⟨_, rfl, hQ⟩

/-! ## rfind between two places -/
noncomputable def upTo (len : Nat) (i : Int) : Nat := (max 0 (if i < 0 then i + len else i)).toNat
noncomputable def rfindI (x y : PySem.Str) (lo hi : Nat) : Int := match Builtin.Str.lastOccurrence x y lo hi with
  | some i => (i : Int)
  | none => -1
theorem tree_rfind {x y : PySem.Str} {t u v v' : Tok} {i j : Int} : Gives (Builtin.«str.rfind» ⟨[.str x t, .str y u, .int i v, .int j v'], []⟩) (.int (rfindI x y (upTo x.length i) (min (upTo x.length j) x.length))) := by
  show Gives (match Builtin.Str.lastOccurrence x y (upTo x.length i) (min (upTo x.length j) x.length) with | some i => retInt i | none => (do rule "str.rfind.not-found"; retInt (-1))) _
  unfold rfindI
  cases Builtin.Str.lastOccurrence x y (upTo x.length i) (min (upTo x.length j) x.length) with
  | none => exact .rule (.of_eq rfl)
  | some i => exact .of_eq rfl
theorem call_rfind {x y : PySem.Str} {t u v v' : Tok} {i j : Int} {Q : Value → Shared → Prop} (hQ : Q (.int (rfindI x y (upTo x.length i) (min (upTo x.length j) x.length)) s.toks) { s with toks := s.toks + 1 }) :
    wpAny (model prog w) A (call (.builtin "str.rfind") [.str x t, .str y u, .int i v, .int j v']) Q E s :=
  call_gives PySem.F.slot_str_rfind (typeIs_str s x t) PySem.F.entry_str_rfind (PySem.F.args_str_rfind_4 _ _ _ _) tree_rfind hQ
end
end Mine.Re
end
noncomputable section
set_option Elab.async false
set_option linter.all false
set_option maxRecDepth 100000
namespace Mine
open PySem PySem.W PyProof.Rows

/-! ## the expressions -/
set_option genSizeOfSpec false in
set_option genInjectivity false in
inductive X where
  | none
  | bool (b : Bool)
  | int (i : Int)
  | str (s : Str)
  | var (x : Str)
  | cv (x : Str)
  | glob (x : Str)
  | bin (op : Operator) (a b : X)
  | neg (a : X)
  | not (a : X)
  | cmp (op : CmpOp) (a b : X)
  | and (a b : X)
  | or (a b : X)
  | ite (c a b : X)
  | idx (a i : X)
  | slc (a lo hi : X)
  | attr (o : X) (f : Str)
  | list (es : X)
  | tup (es : X)
  | nil
  | cons (a b : X)
  | call (f as : X)
  | meth (o : X) (m : Str) (as : X)
  | comp (elt : X) (x : Str) (it cond : X)
  | lam (ps : List Str) (b : X)
  | named (x : Str) (e : X)

/-! ## statements -/
set_option genSizeOfSpec false in
set_option genInjectivity false in
inductive S where
  | brk
  | expr (e : X)
  | asg (x : Str) (e : X)
  | asgC (x : Str) (e : X)
  | own (x : Str) (e : X)
  | ownC (x : Str) (e : X)
  | setA (o : X) (f : Str) (e : X)
  | aug (x : Str) (op : Operator) (e : X)
  | ret (e : X)
  | ite (c : X) (a b : S)
  | loop (n : Nat) (c : X) (b o : S)
  | each (x : Str) (it : X) (b : S)
  | assert (e : X)
  | nil
  | seq (a b : S)
  | asg2 (x y : Str) (e : X)

/-! ## the tie to the written text -/
noncomputable def goodName (x : Str) : Bool := x != ("__debug__" : Str) && x != ("__classdict__" : Str)
/-- not a bare call of super -/
noncomputable def NoSup (e : Expr) : Prop := ∀ (attr : Str) (env : Env) (whole : Sem Value), attributeBase e attr env whole = whole
noncomputable def isSlice (e : Expr) : Bool := match e with
  | .Slice .. => true
  | _ => false
noncomputable def isStar (e : Expr) : Bool := match e with
  | .Starred .. => true
  | _ => false
noncomputable def isSetE (e : Expr) : Bool := match e with
  | .Set .. => true
  | _ => false
noncomputable def isCompE (e : Expr) : Bool := match e with
  | .ListComp .. | .SetComp .. | .DictComp .. => true
  | _ => false


set_option genSizeOfSpec false in
set_option genInjectivity false in
inductive Ph where
  | e (x : Expr)
  | none
  | es (l : List Expr)
  | an (l : List Expr)
  | or (l : List Expr)
  | cond (l : List Expr)
noncomputable def Ph.ofO : Option Expr → Ph
  | some y => .e y
  | Option.none => .none
noncomputable def Ph.ofAnd : List Expr → Ph
  | [y] => .e y
  | l => .an l
noncomputable def Ph.ofOr : List Expr → Ph
  | [y] => .e y
  | l => .or l
noncomputable def Ph.ofCond : List Expr → Ph
  | [y] => .e y
  | l => .cond l
noncomputable def okScope (x : Str) (sc cs : Scope) : Bool := cs.kind == .function && cs.names.lookup x == some .local &&
  cs.names.all fun p => p.2 != .cell && (p.2 != .local || cs.names.lookup p.1 == some .local) && (p.2 != .free || sc.names.lookup p.1 == some .cell || sc.names.lookup p.1 == some .free)

noncomputable def distinct : List Str → Bool
  | [] => true
  | x :: r => r.all (fun y => y != x) && distinct r
noncomputable def keyed (names : List (Str × NameKind)) : Bool := match names with
  | [] => true
  | (x, _) :: r => r.all (fun p => p.1 != x) && keyed r
/-- one plain parameter -/
structure One (a : Arguments) (ps : List Str) : Prop where
  dflt : ∀ env, defaultsOf a env = ([], [])
  bind : ∀ fd : FuncData, fd.params = a → fd.defaults = .none → ∀ cargs : List Value, cargs.length = ps.length → bindArgs fd ⟨cargs, []⟩ = pure (ps.zip cargs)
theorem len1 {α : Type} {l : List α} (h : l.length = 1) : ∃ a, l = [a] := List.length_eq_one_iff.mp h
theorem len2 {α : Type} {l : List α} (h : l.length = 2) : ∃ a b, l = [a, b] := by
  cases l with
  | nil => cases h
  | cons a r => obtain ⟨b, rfl⟩ := len1 (Nat.succ.inj h); exact ⟨a, b, rfl⟩
theorem len3 {α : Type} {l : List α} (h : l.length = 3) : ∃ a b c, l = [a, b, c] := by
  cases l with
  | nil => cases h
  | cons a r => obtain ⟨b, c, rfl⟩ := len2 (Nat.succ.inj h); exact ⟨a, b, c, rfl⟩
theorem one_place {an : Option Expr} {p : Pos} : One ⟨[], [⟨"place", an, p⟩], Option.none, [], [], Option.none, []⟩ ["place"] :=
  ⟨fun _ => rfl, fun fd h1 h2 cargs hl => by
    obtain ⟨c, rfl⟩ := len1 hl
    cases fd
    simp only at h1 h2
    subst h1 h2
    rfl⟩
noncomputable def lamShape (ps : List Str) (ls : Scope) : Bool := ls.kind == .function && !ls.isCoroutine && !ls.isGenerator && keyed ls.names && distinct ps && ps.all (fun x => ls.names.lookup x == some .local) && ls.names.all fun p => p.2 != .cell
noncomputable def lamScope (ps : List Str) (sc ls : Scope) : Bool := lamShape ps ls && ls.names.all fun p => p.2 != .free || sc.names.lookup p.1 == some .cell || sc.names.lookup p.1 == some .free

inductive Ok : X → Scope → Ph → Prop
  | none {sc k p} : Ok .none sc (.e (.Constant .none k p))
  | none' {sc} : Ok .none sc .none
  | bool {sc b k p} : Ok (.bool b) sc (.e (.Constant (.bool b) k p))
  | tt {sc} : Ok (.bool true) sc (.cond [])
  | int {sc i k p} : Ok (.int i) sc (.e (.Constant (.int i) k p))
  | str {sc k p} {s : Str} : (decide (s.length ≤ sizeLine) && PyData.strOk s) = true → Ok (.str s) sc (.e (.Constant (.str s) k p))
  | var {sc x p} : (goodName x && sc.names.lookup x == some .local) = true → Ok (.var x) sc (.e (.Name x p))
  | cv {sc x p} : (goodName x && (sc.names.lookup x == some .cell || sc.names.lookup x == some .free)) = true → Ok (.cv x) sc (.e (.Name x p))
  | glob {sc x p} : (goodName x && sc.names.lookup x == some .globalImplicit) = true → Ok (.glob x) sc (.e (.Name x p))
  | bin {sc op a b l r p} : Ok a sc (.e l) → Ok b sc (.e r) → Ok (.bin op a b) sc (.e (.BinOp l op r p))
  | neg {sc a e p} : Ok a sc (.e e) → Ok (.neg a) sc (.e (.UnaryOp .USub e p))
  | not {sc a e p} : Ok a sc (.e e) → Ok (.not a) sc (.e (.UnaryOp .Not e p))
  | cmp {sc op a b l r p} : Ok a sc (.e l) → Ok b sc (.e r) → behindInMarks op r = false → Ok (.cmp op a b) sc (.e (.Compare l [op] [r] p))
  | and {sc a b e es p} : Ok a sc (.e e) → Ok b sc (.ofAnd es) → Ok (.and a b) sc (.e (.BoolOp .And (e :: es) p))
  | and' {sc a b e es} : Ok a sc (.e e) → Ok b sc (.ofAnd es) → Ok (.and a b) sc (.an (e :: es))
  | or {sc a b e es p} : Ok a sc (.e e) → Ok b sc (.ofOr es) → Ok (.or a b) sc (.e (.BoolOp .Or (e :: es) p))
  | or' {sc a b e es} : Ok a sc (.e e) → Ok b sc (.ofOr es) → Ok (.or a b) sc (.or (e :: es))
  | ite {sc c a b t x y p} : Ok c sc (.e t) → Ok a sc (.e x) → Ok b sc (.e y) → Ok (.ite c a b) sc (.e (.IfExp t x y p))
  | idx {sc a i v sl p} : Ok a sc (.e v) → Ok i sc (.e sl) → isSlice sl = false → Ok (.idx a i) sc (.e (.Subscript v sl p))
  | slc {sc a lo hi v l h p q} : Ok a sc (.e v) → Ok lo sc (.ofO l) → Ok hi sc (.ofO h) → Ok (.slc a lo hi) sc (.e (.Subscript v (.Slice l h Option.none q) p))
  | attr {sc o f e p} : Ok o sc (.e e) → NoSup e → Ok (.attr o f) sc (.e (.Attribute e f p))
  | list {sc es l p} : Ok es sc (.es l) → Ok (.list es) sc (.e (.List l p))
  | tup {sc es l k p} : Ok es sc (.es l) → Ok (.tup es) sc (.e (.Tuple l k p))
  | nil {sc} : Ok .nil sc (.es [])
  | cons {sc a b e r} : Ok a sc (.e e) → Ok b sc (.es r) → isStar e = false → Ok (.cons a b) sc (.es (e :: r))
  | call {sc f as n p l q} : Ok f sc (.e (.Name n p)) → Ok as sc (.es l) → Ok (.call f as) sc (.e (.Call (.Name n p) l [] q))
  | meth {sc o m as e ap l q} : Ok o sc (.e e) → Ok as sc (.es l) → NoSup e → (decide (l.length < 30) && ap.endLine == q.line) = true → Ok (.meth o m as) sc (.e (.Call (.Attribute e m ap) l [] q))
  | comp {sc elt x it cond e yp i ifs cs p} : Ok it sc (.e i) → Ok elt cs (.e e) → Ok cond cs (.ofCond ifs) → okScope x sc cs = true → isSetE i = false → Ok (.comp elt x it cond) sc (.e (.ListComp e [⟨.Name x yp, i, ifs, 0⟩] cs p))
  | lam {sc ps b a body ls p} : One a ps → Ok b ls (.e body) → lamScope ps sc ls = true → Ok (.lam ps b) sc (.e (.Lambda a body ls p))
  | named {sc x e v q p} : sc.names.lookup x = some .local → Ok e sc (.e v) → Ok (.named x e) sc (.e (.NamedExpr (.Name x q) v p))

set_option genSizeOfSpec false in
set_option genInjectivity false in
inductive Pt where
  | s (x : Stmt)
  | l (x : List Stmt)
inductive TieS : S → Scope → Pt → Prop
  | brk {sc p} : TieS .brk sc (.s (.Break p))
  | expr {sc e v p} : Ok e sc (.e v) → isCompE v = false → TieS (.expr e) sc (.s (.Expr v p))
  | asg {sc x e q v p} : sc.names.lookup x = some .local → Ok e sc (.e v) → isCompE v = false → TieS (.asg x e) sc (.s (.Assign [.Name x q] v p))
  | asgC {sc x e q v p} : sc.names.lookup x = some .cell → Ok e sc (.e v) → isCompE v = false → TieS (.asgC x e) sc (.s (.Assign [.Name x q] v p))
  | own {sc x e q l p r} : sc.names.lookup x = some .local → Ok e sc (.es l) → TieS (.own x (.list e)) sc (.s (.Assign [.Name x q] (.List l r) p))
  | ownC {sc x e q l p r} : sc.names.lookup x = some .cell → Ok e sc (.es l) → TieS (.ownC x (.list e)) sc (.s (.Assign [.Name x q] (.List l r) p))
  | setA {sc o f e t q v p} : Ok o sc (.e t) → Ok e sc (.e v) → isCompE v = false → TieS (.setA o f e) sc (.s (.Assign [.Attribute t f q] v p))
  | aug {sc x e q v p} : sc.names.lookup x = some .local → Ok e sc (.e v) → TieS (.aug x .Add e) sc (.s (.AugAssign (.Name x q) .Add v p))
  | ret {sc e v p} : Ok e sc (.e v) → TieS (.ret e) sc (.s (.Return (some v) p))
  | ite {sc c a b t x y p} : Ok c sc (.e t) → TieS a sc (.l x) → TieS b sc (.l y) → TieS (.ite c a b) sc (.s (.If t x y p))
  | loop {sc n c b o t x y p} : Ok c sc (.e t) → TieS b sc (.l x) → TieS o sc (.l y) → TieS (.loop n c b o) sc (.s (.While t x y p))
  | each {sc x it b q i z p} : sc.names.lookup x = some .local → Ok it sc (.e i) → TieS b sc (.l z) → isSetE i = false → TieS (.each x it b) sc (.s (.For (.Name x q) i z [] p))
  | assert {sc e t p} : Ok e sc (.e t) → TieS (.assert e) sc (.s (.Assert t Option.none p))
  | nil {sc} : TieS .nil sc (.l [])
  | seq {sc a b x r} : TieS a sc (.s x) → TieS b sc (.l r) → TieS (.seq a b) sc (.l (x :: r))
  | asg2 {sc x y e q₁ q₂ k q g as ks r p} : sc.names.lookup x = some .local → sc.names.lookup y = some .local → Ok e sc (.e (.Call g as ks r)) → TieS (.asg2 x y e) sc (.s (.Assign [.Tuple [.Name x q₁, .Name y q₂] k q] (.Call g as ks r) p))
  | asg2s {sc x y e q₁ q₂ k q o f ap c n cp k' r p} : sc.names.lookup x = some .local → sc.names.lookup y = some .local → Ok e sc (.e (.Tuple [.Attribute o f ap, .Constant c n cp] k' r)) → (x != y && q₁.line == q₂.line) = true → TieS (.asg2 x y e) sc (.s (.Assign [.Tuple [.Name x q₁, .Name y q₂] k q] (.Tuple [.Attribute o f ap, .Constant c n cp] k' r) p))
end Mine
end
noncomputable section
set_option Elab.async false
set_option linter.all false
set_option maxRecDepth 100000
namespace Mine
open PySem PySem.W PyProof.Rows

/-! ## abstract values and objects -/
inductive V where
  | none
  | bool (b : Bool)
  | int (i : Int)
  | str (s : Str)
  | list (xs : List V)
  | tup (xs : List V)
  | ref (k : Nat)
  | rng (a b c : Int)
  | mt (p e : Nat)
  | clo (ps : List Str) (x : X) (cs : List (Str × Nat))
  | top (v : Value)

inductive O where
  | list (xs : List V)
  | inst (C : Addr) (d : Nat)
  | dict (fs : List (Str × V))
  | cell (v : Option V)
  | tab (q : Str)

/-- where the owned objects lie, and the objects that stay as they are -/
structure Wd where
  ρ : Nat → Nat
  fz : Nat → Option Obj

/-- a code record that stays as it is -/
noncomputable def CodeFz (W : Wd) (cv : Value) (q : Str) : Prop := ∃ c oc vs t, cv = .ref c ∧ W.fz c = some oc ∧ oc.data = .fields vs ∧ vs[1]? = some (.str q t)
/-- a lambda's function -/
structure CloOk (W : Wd) (n : Nat) (ps : List Str) (x : X) (cs : List (Str × Nat)) (fd : FuncData) : Prop where
  body : ∃ e, fd.body = .expr e ∧ Ok x fd.scope (.e e)
  shape : lamShape ps fd.scope = true
  code : CodeFz W fd.code fd.qualname
  glob : fd.globals = mainGlobals
  bns : fd.builtins = builtinsNs
  args : ∀ cargs : List Value, cargs.length = ps.length → bindArgs fd ⟨cargs, []⟩ = pure (ps.zip cargs)
  free : ∀ y, fd.scope.names.lookup y = some .free → ∃ a, fd.closure.lookup y = some a
  cel : ∀ y k, cs.lookup y = some k → k < n ∧ (fd.scope.names.lookup y = some .free → fd.closure.lookup y = some (W.ρ k))

mutual
inductive VR (W : Wd) (n : Nat) : V → Value → Prop
  | none : VR W n .none .none
  | bool (b : Bool) : VR W n (.bool b) (.bool b)
  | int (i : Int) (t : Tok) : VR W n (.int i) (.int i t)
  | str (s : Str) (t : Tok) : s.length ≤ sizeLine → PyData.strOk s = true → VR W n (.str s) (.str s t)
  | list {a : Addr} {o : Obj} {items : Array Value} {e : Nat} {xs : List V} : W.fz a = some o → o.cls = .type "list" → o.data = .seq items e → items.size ≤ sizeLine → VRs W n xs items.toList → o.dict = Option.none → VR W n (.list xs) (.ref a)
  | tup {a : Addr} {o : Obj} {items : Array Value} {e : Nat} {xs : List V} : W.fz a = some o → o.cls = .type "tuple" → o.data = .seq items e → items.size ≤ sizeLine → VRs W n xs items.toList → VR W n (.tup xs) (.ref a)
  | ref {k : Nat} : k < n → VR W n (.ref k) (.ref (W.ρ k))
  | rng {r : Nat} {a b c : Int} {t u v : Tok} : W.fz r = some { cls := .type "range", dict := Option.none, data := .fields #[.int a t, .int b u, .int c v], slots := #[] } → Builtin.Range.small a b c = true → VR W n (.rng a b c) (.ref r)
  | mt {a tp : Nat} {o ot : Obj} {vs : Array Value} {items : Array Value} {e₀ : Nat} {p e : Nat} {t u : Tok} : W.fz a = some o → o.cls = .type "re.Match" → o.data = .fields vs → vs.getD 5 .none = .ref tp → W.fz tp = some ot → ot.data = .seq items e₀ → items.toList = [.int p t, .int e u] → o.dict = Option.none → VR W n (.mt p e) (.ref a)
  | clo {a : Nat} {o : Obj} {fd : FuncData} {ps : List Str} {x : X} {cs : List (Str × Nat)} : W.fz a = some o → o.data = .func fd → CloOk W n ps x cs fd → VR W n (.clo ps x cs) (.ref a)
  | top (v : Value) : VR W n (.top v) v
inductive VRs (W : Wd) (n : Nat) : List V → List Value → Prop
  | nil : VRs W n [] []
  | cons {x : V} {c : Value} {xs : List V} {cs : List Value} : VR W n x c → VRs W n xs cs → VRs W n (x :: xs) (c :: cs)
end

structure Wle (n : Nat) (W W' : Wd) : Prop where
  ρ : ∀ k, k < n → W'.ρ k = W.ρ k
  fz : ∀ a c, W.fz a = some c → W'.fz a = some c

theorem Wle.refl (n : Nat) (W : Wd) : Wle n W W := ⟨fun _ _ => rfl, fun _ _ e => e⟩
theorem Wle.trans {n n' : Nat} {W W' W'' : Wd} (a : Wle n W W') (hn : n ≤ n') (b : Wle n' W' W'') : Wle n W W'' :=
  ⟨fun k hk => (b.ρ k (Nat.lt_of_lt_of_le hk hn)).trans (a.ρ k hk), fun x c e => b.fz x c (a.fz x c e)⟩

theorem CodeFz.mono {W W' : Wd} {n : Nat} {cv : Value} {q : Str} (l : Wle n W W') (h : CodeFz W cv q) : CodeFz W' cv q :=
  let ⟨c, oc, vs, t, h1, h2, h3, h4⟩ := h; ⟨c, oc, vs, t, h1, l.fz _ _ h2, h3, h4⟩
theorem CloOk.mono {W W' : Wd} {n n' : Nat} (l : Wle n W W') (hn : n ≤ n') {ps : List Str} {x : X} {cs : List (Str × Nat)} {fd : FuncData} (h : CloOk W n ps x cs fd) : CloOk W' n' ps x cs fd :=
  ⟨h.body, h.shape, h.code.mono l, h.glob, h.bns, h.args, h.free, fun y k hk => ⟨Nat.lt_of_lt_of_le (h.cel y k hk).1 hn, fun hf => by rw [l.ρ k (h.cel y k hk).1]; exact (h.cel y k hk).2 hf⟩⟩
theorem VR.inv_int {W : Wd} {n : Nat} {i : Int} {c : Value} (h : VR W n (.int i) c) : ∃ t, c = .int i t := by cases h; exact ⟨_, rfl⟩
theorem VR.inv_str {W : Wd} {n : Nat} {x : Str} {c : Value} (h : VR W n (.str x) c) : ∃ t, c = .str x t ∧ x.length ≤ sizeLine ∧ PyData.strOk x = true := by cases h; exact ⟨_, rfl, ‹_›, ‹_›⟩
theorem VR.inv_ref {W : Wd} {n k : Nat} {c : Value} (h : VR W n (.ref k) c) : c = .ref (W.ρ k) ∧ k < n := by cases h; exact ⟨rfl, ‹_›⟩
theorem VR.inv_list {W : Wd} {n : Nat} {xs : List V} {c : Value} (h : VR W n (.list xs) c) : ∃ a o, c = .ref a ∧ W.fz a = some o ∧ o.cls = .type "list" ∧ o.dict = Option.none := by cases h; exact ⟨_, _, rfl, ‹_›, ‹_›, ‹_›⟩
theorem VR.inv_top {W : Wd} {n : Nat} {v c : Value} (h : VR W n (.top v) c) : c = v := by cases h; rfl
theorem VRs.inv_nil {W : Wd} {n : Nat} {cs : List Value} (h : VRs W n [] cs) : cs = [] := by cases h; rfl
theorem VRs.inv_cons {W : Wd} {n : Nat} {x : V} {xs : List V} {cs : List Value} (h : VRs W n (x :: xs) cs) : ∃ c ds, cs = c :: ds ∧ VR W n x c ∧ VRs W n xs ds := by cases h; exact ⟨_, _, rfl, ‹_›, ‹_›⟩
theorem VRs.inv1 {W : Wd} {n : Nat} {x : V} {cs : List Value} (h : VRs W n [x] cs) : ∃ c, cs = [c] ∧ VR W n x c := by
  obtain ⟨c, ds, rfl, a, b⟩ := h.inv_cons
  obtain rfl := b.inv_nil
  exact ⟨c, rfl, a⟩
theorem VRs.inv2 {W : Wd} {n : Nat} {x y : V} {cs : List Value} (h : VRs W n [x, y] cs) : ∃ c d, cs = [c, d] ∧ VR W n x c ∧ VR W n y d := by
  obtain ⟨c, ds, rfl, a, b⟩ := h.inv_cons
  obtain ⟨d, rfl, b'⟩ := b.inv1
  exact ⟨c, d, rfl, a, b'⟩
theorem VR.mono {W W' : Wd} {n n' : Nat} (l : Wle n W W') (hn : n ≤ n') {v : V} {c : Value} (h : VR W n v c) : VR W' n' v c :=
  VR.rec (motive_1 := fun v c _ => VR W' n' v c) (motive_2 := fun v c _ => VRs W' n' v c) .none .bool .int .str
    (fun a b c s _ e d => .list (l.fz _ _ a) b c s d e) (fun a b c s _ d => .tup (l.fz _ _ a) b c s d) (fun {k} h => by rw [← l.ρ k h]; exact .ref (Nat.lt_of_lt_of_le h hn))
    (fun a b => .rng (l.fz _ _ a) b) (fun a b c d e f g h => .mt (l.fz _ _ a) b c d (l.fz _ _ e) f g h) (fun a b c => .clo (l.fz _ _ a) b (c.mono l hn)) .top .nil (fun _ _ a b => .cons a b) h
theorem VRs.ind {W : Wd} {n : Nat} {C : List V → List Value → Prop} (h1 : C [] []) (h2 : ∀ {x c xs cs}, VR W n x c → VRs W n xs cs → C xs cs → C (x :: xs) (c :: cs)) {xs : List V} {cs : List Value} (h : VRs W n xs cs) : C xs cs :=
  VRs.rec (motive_1 := fun _ _ _ => True) (motive_2 := fun xs cs _ => C xs cs) trivial (fun _ => trivial) (fun _ _ => trivial) (fun _ _ _ _ => trivial) (fun _ _ _ _ _ _ _ => trivial) (fun _ _ _ _ _ _ => trivial) (fun _ => trivial) (fun _ _ => trivial) (fun _ _ _ _ _ _ _ _ => trivial) (fun _ _ _ => trivial) (fun _ => trivial) h1 (fun a b _ ih => h2 a b ih) h
theorem VRs.mono {W W' : Wd} {n n' : Nat} (l : Wle n W W') (hn : n ≤ n') {v : List V} {c : List Value} (h : VRs W n v c) : VRs W' n' v c :=
  h.ind .nil fun a _ ih => .cons (a.mono l hn) ih

theorem VRs.length {W : Wd} {n : Nat} {xs : List V} {cs : List Value} (h : VRs W n xs cs) : cs.length = xs.length :=
  h.ind (C := fun xs cs => cs.length = xs.length) rfl fun _ _ ih => congrArg Nat.succ ih
theorem VRs.get {W : Wd} {n : Nat} {xs : List V} {cs : List Value} (h : VRs W n xs cs) : ∀ {i : Nat} {x : V}, xs[i]? = some x → ∃ c, cs[i]? = some c ∧ VR W n x c := by
  refine h.ind (C := fun xs cs => ∀ {i : Nat} {x : V}, xs[i]? = some x → ∃ c, cs[i]? = some c ∧ VR W n x c) (fun e => nomatch e) ?_
  intro _ _ _ _ a _ ih i x e
  cases i with
  | zero => cases e; exact ⟨_, rfl, a⟩
  | succ i => exact ih (i := i) e
theorem VRs.append {W : Wd} {n : Nat} {xs ys : List V} {cs ds : List Value} (h : VRs W n xs cs) (b : VRs W n ys ds) : VRs W n (xs ++ ys) (cs ++ ds) :=
  h.ind (C := fun xs cs => VRs W n (xs ++ ys) (cs ++ ds)) b fun a _ ih => .cons a ih
theorem VRs.drop {W : Wd} {n : Nat} {xs : List V} {cs : List Value} (i : Nat) (h : VRs W n xs cs) : VRs W n (xs.drop i) (cs.drop i) := by
  refine h.ind (C := fun xs cs => ∀ i, VRs W n (xs.drop i) (cs.drop i)) (fun i => by rw [List.drop_nil, List.drop_nil]; exact .nil) ?_ i
  intro _ _ _ _ a r ih i
  cases i with
  | zero => exact .cons a r
  | succ i => exact ih i
theorem VRs.take {W : Wd} {n : Nat} {xs : List V} {cs : List Value} (i : Nat) (h : VRs W n xs cs) : VRs W n (xs.take i) (cs.take i) := by
  refine h.ind (C := fun xs cs => ∀ i, VRs W n (xs.take i) (cs.take i)) (fun i => by rw [List.take_nil, List.take_nil]; exact .nil) ?_ i
  intro _ _ _ _ a r ih i
  cases i with
  | zero => exact .nil
  | succ i => exact .cons a (ih i)
theorem VRs.reverse {W : Wd} {n : Nat} {xs : List V} {cs : List Value} (h : VRs W n xs cs) : VRs W n xs.reverse cs.reverse :=
  h.ind (C := fun xs cs => VRs W n xs.reverse cs.reverse) .nil fun a _ ih => by rw [List.reverse_cons, List.reverse_cons]; exact ih.append (.cons a .nil)

/-- the dict of an instance: its entries under written names -/
inductive FR (W : Wd) (n : Nat) : List (Str × V) → List DictEntry → Prop
  | nil : FR W n [] []
  | cons {x : Str} {v : V} {c : Value} {hsh : Int} {t : Tok} {fs : List (Str × V)} {es : List DictEntry} : VR W n v c → FR W n fs es → FR W n ((x, v) :: fs) (⟨hsh, .str x t, c⟩ :: es)
theorem FR.mono {W W' : Wd} {n n' : Nat} (l : Wle n W W') (hn : n ≤ n') : ∀ {v : List (Str × V)} {c : List DictEntry}, FR W n v c → FR W' n' v c
  | _, _, .nil => .nil
  | _, _, .cons a b => .cons (a.mono l hn) (b.mono l hn)

/-- a table of nested code -/
noncomputable def TabR (W : Wd) (q : Str) (ps : Array Value) : Prop := TriplesOk ps.toList ∧ ∀ pos cv, codeAmong pos ps.toList = some cv → CodeFz W cv q
inductive OR (W : Wd) (n : Nat) : O → Obj → Prop
  | list {items : Array Value} {e : Nat} {xs : List V} : VRs W n xs items.toList → items.size ≤ sizeLine → OR W n (.list xs) (listOf items e)
  | inst {C : Addr} {d : Nat} : d < n → OR W n (.inst C d) (instObj C (W.ρ d))
  | dict {fs : List (Str × V)} {es : List DictEntry} {e : Nat} : FR W n fs es → OR W n (.dict fs) (dictOf es e)
  | cell {o : Obj} {v : V} {c : Value} : o.data = .cell (some c) → VR W n v c → OR W n (.cell (some v)) o
  | nocell {o : Obj} : o.data = .cell .none → OR W n (.cell .none) o
  | tab {q : Str} {ps : Array Value} : TabR W q ps → OR W n (.tab q) (tabObj ps)

theorem OR.mono {W W' : Wd} {n n' : Nat} (l : Wle n W W') (hn : n ≤ n') {o : O} {c : Obj} (h : OR W n o c) : OR W' n' o c := by
  cases h with
  | list d z => exact .list (d.mono l hn) z
  | inst h => rw [← l.ρ _ h]; exact .inst (Nat.lt_of_lt_of_le h hn)
  | dict h => exact .dict (h.mono l hn)
  | cell h r => exact .cell h (r.mono l hn)
  | nocell h => exact .nocell h
  | tab h => exact .tab ⟨h.1, fun pos cv e => (h.2 pos cv e).mono l⟩
theorem OR.inv_list {W : Wd} {n : Nat} {xs : List V} {c : Obj} (h : OR W n (.list xs) c) : ∃ items e, c = listOf items e ∧ VRs W n xs items.toList ∧ items.size ≤ sizeLine := by cases h; exact ⟨_, _, rfl, ‹_›, ‹_›⟩
theorem OR.unfreed {W : Wd} {n : Nat} {o : O} {c : Obj} (h : OR W n o c) : c.isFreed = false := by
  cases h with
  | list d z => rfl
  | inst h => rfl
  | dict h => rfl
  | cell h r => obtain ⟨c, d, dt, sl⟩ := c; simp only at h; subst h; rfl
  | nocell h => obtain ⟨c, d, dt, sl⟩ := c; simp only at h; subst h; rfl
  | tab h => rfl

/-- the abstract state: locals, cells (by name), owned objects -/
structure Hp where
  obj : Nat → Option O
  nxt : Nat
structure St extends Hp where
  loc : List (Str × V)
  cel : List (Str × Nat) := []
  /-- the table of the frame's nested code, and their name -/
  tbl : Option (Nat × Str) := none

structure Par where
  prog : Program
  w : World
  B : Heap
  os : OsState
  /-- where the table of nested code lies -/
  T : Nat
noncomputable abbrev Par.M (P : Par) : Model := model P.prog P.w

structure Inv (P : Par) (fr : List Nat) (W : Wd) (σ : Hp) (s : Shared) : Prop where
  keep : ∀ b o, P.B.get? b = some o → s.heap.get? b = some o
  old : ∀ k, k < σ.nxt → P.B.get? (W.ρ k) = none
  live : ∀ k, k < σ.nxt → ∃ o, s.heap.get? (W.ρ k) = some o
  nofr : ∀ k, k < σ.nxt → W.ρ k ∉ fr
  nofz : ∀ k, k < σ.nxt → W.fz (W.ρ k) = none
  inj : ∀ i j, i < σ.nxt → j < σ.nxt → W.ρ i = W.ρ j → i = j
  obj : ∀ k o, σ.obj k = some o → k < σ.nxt ∧ ∃ c, s.heap.get? (W.ρ k) = some c ∧ OR W σ.nxt o c
  frz : ∀ (a : Nat) c, W.fz a = some c → s.heap.get? a = some c ∧ a ∉ fr
  frB : ∀ a ∈ fr, P.B.get? a = none ∧ ∃ o, s.heap.get? a = some o ∧ ∀ vs, o.data ≠ .fields vs
  gens : s.gens = #[]
  os : s.os = P.os
  tab0 : 0 < σ.nxt ∧ W.ρ 0 = P.T

structure Loc (P : Par) (env : Env) (W : Wd) (σ : St) (h : Heap) : Prop where
  kind : env.scope.kind = .function
  glob : env.globals = mainGlobals
  bns : env.builtins = builtinsNs
  loc : ∃ m, h.Ns env.locals m ∧ ∀ x v, σ.loc.lookup x = some v → env.kindOf x = some .local ∧ ∃ c, m x = some c ∧ VR W σ.nxt v c
  cel : ∀ x k, σ.cel.lookup x = some k → k < σ.nxt ∧ ((env.kindOf x = some .cell ∨ env.kindOf x = some .free) → env.cells.lookup x = some (W.ρ k))
  cod : ∀ k q, σ.tbl = some (k, q) → k < σ.nxt ∧ env.qual ++ Str.ofString "<lambda>" = q ∧ ∃ c, env.code = .ref c ∧ CodeHd P.B c (W.ρ k)

structure Nx (fr : List Nat) (L : Nat) (W : Wd) (n : Nat) (h : Heap) (W' : Wd) (n' : Nat) (h' : Heap) : Prop where
  wle : Wle n W W'
  le : n ≤ n'
  live : ∀ a o, h.get? a = some o → ∃ o', h'.get? a = some o'
  new : ∀ k, n ≤ k → k < n' → h.get? (W'.ρ k) = none
  fzn : ∀ a c, W'.fz a = some c → W.fz a = some c ∨ h.get? a = none
  ext : ∀ (a : Nat) o, h.get? a = some o → a ≠ L → a ∉ fr → (∀ k, k < n → W.ρ k ≠ a) → h'.get? a = some o
  fext : ∀ (a : Nat) o, a ∈ fr → a ≠ L → h.get? a = some o → ∃ o', h'.get? a = some o' ∧ o'.data = o.data

theorem Nx.refl (fr : List Nat) (L : Nat) (W : Wd) (n : Nat) (h : Heap) : Nx fr L W n h W n h :=
  ⟨.refl n W, Nat.le_refl _, fun _ o e => ⟨o, e⟩, fun _ a b => absurd b (Nat.not_lt.mpr a), fun _ _ e => .inl e, fun _ _ e _ _ _ => e, fun _ o _ _ e => ⟨o, e, rfl⟩⟩
theorem Nx.trans {fr : List Nat} {L : Nat} {W W' W'' : Wd} {n n' n'' : Nat} {h h' h'' : Heap} (a : Nx fr L W n h W' n' h') (b : Nx fr L W' n' h' W'' n'' h'') : Nx fr L W n h W'' n'' h'' where
  wle := a.wle.trans a.le b.wle
  le := Nat.le_trans a.le b.le
  live := fun x o e => let ⟨o', e'⟩ := a.live x o e; b.live x o' e'
  new := fun k h1 h2 => by
    by_cases hk : k < n'
    · rw [b.wle.ρ k hk]; exact a.new k h1 hk
    · cases q : h.get? (W''.ρ k) with
      | none => rfl
      | some o => obtain ⟨o', e'⟩ := a.live _ _ q; rw [b.new k (Nat.not_lt.mp hk) h2] at e'; cases e'
  fzn := fun x c e => by
    rcases b.fzn x c e with q | q
    · exact a.fzn x c q
    · right
      cases hq : h.get? x with
      | none => rfl
      | some o => obtain ⟨o', e'⟩ := a.live _ _ hq; rw [q] at e'; cases e'
  ext := fun x o e h1 h0 h2 => b.ext x o (a.ext x o e h1 h0 h2) h1 h0 fun k hk q => by
    by_cases hn : k < n
    · rw [a.wle.ρ k hn] at q; exact h2 k hn q
    · have := a.new k (Nat.not_lt.mp hn) hk
      rw [q, e] at this; cases this
  fext := fun x o h1 h2 e => by
    obtain ⟨o', e', d'⟩ := a.fext x o h1 h2 e
    obtain ⟨o'', e'', d''⟩ := b.fext x o' h1 h2 e'
    exact ⟨o'', e'', d''.trans d'⟩
/-- nothing that stood is changed -/
theorem Nx.keeps {fr : List Nat} {L : Nat} {W W' : Wd} {n n' : Nat} {h h' : Heap} (wl : Wle n W W') (le : n ≤ n') (hk : ∀ b o, h.get? b = some o → h'.get? b = some o) (new : ∀ k, n ≤ k → k < n' → h.get? (W'.ρ k) = none) (fzn : ∀ a c, W'.fz a = some c → W.fz a = some c ∨ h.get? a = none) : Nx fr L W n h W' n' h' :=
  ⟨wl, le, fun _ o e => ⟨o, hk _ _ e⟩, new, fzn, fun _ _ e _ _ _ => hk _ _ e, fun _ o _ _ e => ⟨o, hk _ _ e, rfl⟩⟩

structure Step (P : Par) (fr : List Nat) (env : Env) (W : Wd) (σ : St) (s : Shared) (W' : Wd) (σ' : St) (s' : Shared) : Prop where
  nx : Nx fr env.locals W σ.nxt s.heap W' σ'.nxt s'.heap
  inv : Inv P fr W' σ'.toHp s'
  loc : Loc P env W' σ' s'.heap

theorem Step.trans {P : Par} {fr : List Nat} {env : Env} {W W' W'' : Wd} {σ σ' σ'' : St} {s s' s'' : Shared} (a : Step P fr env W σ s W' σ' s') (b : Step P fr env W' σ' s' W'' σ'' s'') : Step P fr env W σ s W'' σ'' s'' :=
  ⟨a.nx.trans b.nx, b.inv, b.loc⟩

section
variable {P : Par} {fr : List Nat} {env : Env} {W : Wd} {σ : St} {s : Shared}

theorem Inv.toks (I : Inv P fr W σ.toHp s) (t : Nat) : Inv P fr W σ.toHp { s with toks := t } :=
  ⟨I.keep, I.old, I.live, I.nofr, I.nofz, I.inj, I.obj, I.frz, I.frB, I.gens, I.os, I.tab0⟩
theorem Step.toks (I : Inv P fr W σ.toHp s) (L : Loc P env W σ s.heap) (t : Nat) : Step P fr env W σ s W σ { s with toks := t } :=
  ⟨.refl .., I.toks t, L⟩
theorem Step.refl (I : Inv P fr W σ.toHp s) (L : Loc P env W σ s.heap) : Step P fr env W σ s W σ s := ⟨.refl .., I, L⟩

/-- the heap grows, and what stood stands -/
theorem Inv.grow (I : Inv P fr W σ.toHp s) {s' : Shared} (hk : ∀ b o, s.heap.get? b = some o → s'.heap.get? b = some o) (hg : s'.gens = s.gens) (ho : s'.os = s.os) : Inv P fr W σ.toHp s' where
  keep := fun b o e => hk _ _ (I.keep b o e)
  old := I.old
  live := fun k h => let ⟨o, e⟩ := I.live k h; ⟨o, hk _ _ e⟩
  nofr := I.nofr
  nofz := I.nofz
  inj := I.inj
  obj := fun k o e => let ⟨a, c, b, d⟩ := I.obj k o e; ⟨a, c, hk _ _ b, d⟩
  frz := fun a c e => ⟨hk _ _ (I.frz a c e).1, (I.frz a c e).2⟩
  frB := fun a h => ⟨(I.frB a h).1, let ⟨o, e, d⟩ := (I.frB a h).2; ⟨o, hk _ _ e, d⟩⟩
  gens := hg.trans I.gens
  os := ho.trans I.os
  tab0 := I.tab0
theorem Loc.grow (L : Loc P env W σ s.heap) {h' : Heap} (hk : ∀ b o, s.heap.get? b = some o → h'.get? b = some o) : Loc P env W σ h' :=
  ⟨L.kind, L.glob, L.bns, let ⟨m, a, b⟩ := L.loc; ⟨m, a.keeps hk, b⟩, L.cel, L.cod⟩
theorem Step.grow (I : Inv P fr W σ.toHp s) (L : Loc P env W σ s.heap) {s' : Shared} (hk : ∀ b o, s.heap.get? b = some o → s'.heap.get? b = some o) (hg : s'.gens = s.gens) (ho : s'.os = s.os) :
    Step P fr env W σ s W σ s' :=
  ⟨.keeps (.refl ..) (Nat.le_refl _) hk (fun _ a b => absurd b (Nat.not_lt.mpr a)) (fun _ _ e => .inl e), I.grow hk hg ho, L.grow hk⟩
theorem Step.push (I : Inv P fr W σ.toHp s) (L : Loc P env W σ s.heap) (o : Obj) {s' : Shared} (e : s'.heap = s.heap.push o) (hg : s'.gens = s.gens) (ho : s'.os = s.os) : Step P fr env W σ s W σ s' :=
  Step.grow I L (fun _ _ x => e ▸ Heap.get?_push_of_some _ x) hg ho

/-- a new object that stays as it is -/
noncomputable def Wd.freeze (W : Wd) (a : Nat) (o : Obj) : Wd := { W with fz := fun b => if b = a then some o else W.fz b }
theorem Step.freezeAt (I : Inv P fr W σ.toHp s) (L : Loc P env W σ s.heap) (o : Obj) (a : Nat) (hn : s.heap.get? a = none) {s' : Shared} (hk : ∀ b o', s.heap.get? b = some o' → s'.heap.get? b = some o') (ha : s'.heap.get? a = some o) (hg : s'.gens = s.gens) (ho : s'.os = s.os) :
    Step P fr env W σ s (W.freeze a o) σ s' := by
  have hfz : ∀ b c, W.fz b = some c → (W.freeze a o).fz b = some c := fun b c h => by
    show (if b = a then some o else W.fz b) = some c
    rw [if_neg]; exact h
    rintro rfl; have := (I.frz _ _ h).1; rw [hn] at this; cases this
  have wl : Wle σ.nxt W (W.freeze a o) := ⟨fun _ _ => rfl, hfz⟩
  have J := I.grow hk hg ho
  refine ⟨.keeps wl (Nat.le_refl _) hk (fun _ a b => absurd b (Nat.not_lt.mpr a)) (fun b c e => ?_), ⟨J.keep, J.old, J.live, J.nofr, fun k h => ?_, J.inj, fun k o' h => ?_, fun b c h => ?_, J.frB, J.gens, J.os, J.tab0⟩, ?_⟩
  · by_cases hb : b = a
    · subst hb; exact .inr hn
    · have e' : (if b = a then some o else W.fz b) = some c := e
      rw [if_neg hb] at e'; exact .inl e'
  · show (if W.ρ k = a then some o else W.fz (W.ρ k)) = none
    rw [if_neg]; exact I.nofz k h
    rintro rfl; obtain ⟨o', e'⟩ := I.live k h; rw [hn] at e'; cases e'
  · obtain ⟨a, c, b, d⟩ := J.obj k o' h; exact ⟨a, c, b, d.mono wl (Nat.le_refl _)⟩
  · by_cases hb : b = a
    · subst hb
      have h' : (if b = b then some o else W.fz b) = some c := h
      rw [if_pos rfl] at h'; cases h'
      refine ⟨ha, fun hm => ?_⟩
      obtain ⟨o', e', _⟩ := (I.frB _ hm).2; rw [hn] at e'; cases e'
    · have h' : (if b = a then some o else W.fz b) = some c := h
      rw [if_neg hb] at h'
      exact J.frz b c h'
  · have J' := L.grow hk
    exact ⟨J'.kind, J'.glob, J'.bns, let ⟨m, a, b⟩ := J'.loc; ⟨m, a, fun x v h => let ⟨p, c, q, r⟩ := b x v h; ⟨p, c, q, r.mono wl (Nat.le_refl _)⟩⟩, J'.cel, J'.cod⟩
theorem size_new (h : Heap) : h.get? h.objs.size = none := Heap.get?_none_of_le (Nat.le_refl _)
theorem Step.freeze (I : Inv P fr W σ.toHp s) (L : Loc P env W σ s.heap) (o : Obj) (hf : o.isFreed = false) {s' : Shared} (e : s'.heap = s.heap.push o) (hg : s'.gens = s.gens) (ho : s'.os = s.os) :
    Step P fr env W σ s (W.freeze s.heap.objs.size o) σ s' :=
  Step.freezeAt I L o _ (size_new _) (fun _ _ x => e ▸ Heap.get?_push_of_some _ x) (e ▸ Heap.get?_push_size _ hf) hg ho

/-- a new owned object -/
noncomputable def Wd.add (W : Wd) (n : Nat) (a : Nat) : Wd := { W with ρ := fun k => if k = n then a else W.ρ k }
noncomputable def St.add (σ : St) (o : O) : St := { σ with obj := fun k => if k = σ.nxt then some o else σ.obj k, nxt := σ.nxt + 1 }
theorem Wd.add_le (W : Wd) (n : Nat) (a : Nat) : Wle n W (W.add n a) :=
  ⟨fun k h => by show (if k = n then a else W.ρ k) = W.ρ k; rw [if_neg (Nat.ne_of_lt h)], fun _ _ e => e⟩
theorem Step.addAt (I : Inv P fr W σ.toHp s) (L : Loc P env W σ s.heap) (o : O) (c : Obj) (a : Nat) (hn : s.heap.get? a = none) (hr : OR (W.add σ.nxt a) (σ.nxt + 1) o c) {s' : Shared} (hk : ∀ b o', s.heap.get? b = some o' → s'.heap.get? b = some o') (ha : s'.heap.get? a = some c) (hg : s'.gens = s.gens) (ho : s'.os = s.os) :
    Step P fr env W σ s (W.add σ.nxt a) (σ.add o) s' := by
  have wl := W.add_le σ.nxt a
  have J := I.grow hk hg ho
  have ρn : (W.add σ.nxt a).ρ σ.nxt = a := by show (if σ.nxt = σ.nxt then _ else _) = _; rw [if_pos rfl]
  have hlt : ∀ k, k < σ.nxt + 1 → k = σ.nxt ∨ (k < σ.nxt ∧ (W.add σ.nxt a).ρ k = W.ρ k) := fun k h => by
    rcases Nat.lt_succ_iff_lt_or_eq.mp h with h | h
    · exact .inr ⟨h, wl.ρ k h⟩
    · exact .inl h
  refine ⟨.keeps wl (Nat.le_succ _) hk (fun k a' b => ?_) (fun _ _ e => .inl e), ⟨J.keep, fun k h => ?_, fun k h => ?_, fun k h => ?_, fun k h => ?_, fun i j hi hj h => ?_, fun k o' h => ?_, fun a c h => J.frz a c h, J.frB, J.gens, J.os, Nat.succ_pos _, (wl.ρ 0 J.tab0.1).trans J.tab0.2⟩, ?_⟩
  · rcases hlt k b with rfl | ⟨q, _⟩
    · rw [ρn]; exact hn
    · exact absurd q (Nat.not_lt.mpr a')
  · rcases hlt k h with rfl | ⟨q, r⟩
    · rw [ρn]
      cases hq : P.B.get? a with
      | none => rfl
      | some o => have := I.keep _ _ hq; rw [hn] at this; cases this
    · rw [r]; exact I.old k q
  · rcases hlt k h with rfl | ⟨q, r⟩
    · rw [ρn]; exact ⟨_, ha⟩
    · rw [r]; exact J.live k q
  · rcases hlt k h with rfl | ⟨q, r⟩
    · rw [ρn]; intro hm; obtain ⟨o', e', _⟩ := (I.frB _ hm).2; rw [hn] at e'; cases e'
    · rw [r]; exact I.nofr k q
  · rcases hlt k h with rfl | ⟨q, r⟩
    · rw [ρn]
      show W.fz _ = none
      cases hq : W.fz a with
      | none => rfl
      | some o => have := (I.frz _ _ hq).1; rw [hn] at this; cases this
    · rw [r]; exact I.nofz k q
  · rcases hlt i hi with rfl | ⟨q, r⟩ <;> rcases hlt j hj with rfl | ⟨q', r'⟩
    · rfl
    · rw [ρn, r'] at h; obtain ⟨o', e'⟩ := I.live j q'; rw [← h, hn] at e'; cases e'
    · rw [ρn, r] at h; obtain ⟨o', e'⟩ := I.live i q; rw [h, hn] at e'; cases e'
    · rw [r, r'] at h; exact I.inj i j q q' h
  · have h' : (if k = σ.nxt then some o else σ.obj k) = some o' := h
    by_cases hk' : k = σ.nxt
    · subst hk'
      rw [if_pos rfl] at h'; cases h'
      exact ⟨Nat.lt_succ_self _, c, by rw [ρn]; exact ha, hr⟩
    · rw [if_neg hk'] at h'
      obtain ⟨a', c', b, d⟩ := J.obj k o' h'
      exact ⟨Nat.lt_succ_of_lt a', c', by rw [wl.ρ k a']; exact b, d.mono wl (Nat.le_succ _)⟩
  · have J' := L.grow hk
    exact ⟨J'.kind, J'.glob, J'.bns, let ⟨m, a, b⟩ := J'.loc; ⟨m, a, fun x v h => let ⟨p, c, q, r⟩ := b x v h; ⟨p, c, q, r.mono wl (Nat.le_succ _)⟩⟩,
      fun x k h => let ⟨p, q⟩ := J'.cel x k h; ⟨Nat.lt_succ_of_lt p, fun hk => by rw [wl.ρ k p]; exact q hk⟩,
      fun k q h => let ⟨p, r⟩ := J'.cod k q h; ⟨Nat.lt_succ_of_lt p, by rw [wl.ρ k p]; exact r⟩⟩
theorem Step.add (I : Inv P fr W σ.toHp s) (L : Loc P env W σ s.heap) (o : O) (c : Obj) (hr : OR (W.add σ.nxt s.heap.objs.size) (σ.nxt + 1) o c) {s' : Shared} (e : s'.heap = s.heap.push c) (hg : s'.gens = s.gens) (ho : s'.os = s.os) :
    Step P fr env W σ s (W.add σ.nxt s.heap.objs.size) (σ.add o) s' :=
  Step.addAt I L o c _ (size_new _) hr (fun _ _ x => e ▸ Heap.get?_push_of_some _ x) (e ▸ Heap.get?_push_size _ hr.unfreed) hg ho

/-- an owned object is changed -/
noncomputable def St.put (σ : St) (k : Nat) (o : O) : St := { σ with obj := fun j => if j = k then some o else σ.obj j }
theorem Step.put (I : Inv P fr W σ.toHp s) (L : Loc P env W σ s.heap) {k : Nat} (hk : k < σ.nxt) (hL : env.locals ∈ fr) (o : O) {c : Obj} (hr : OR W σ.nxt o c) {s' : Shared} (hs : ∀ b o, b ≠ W.ρ k → s.heap.get? b = some o → s'.heap.get? b = some o) (hc : s'.heap.get? (W.ρ k) = some c) (hg : s'.gens = s.gens) (ho : s'.os = s.os) :
    Step P fr env W σ s W (σ.put k o) s' := by
  have lv : ∀ a o, s.heap.get? a = some o → ∃ o', s'.heap.get? a = some o' := fun a o e => by
    by_cases ha : a = W.ρ k
    · subst ha; exact ⟨_, hc⟩
    · exact ⟨o, hs a o ha e⟩
  refine ⟨⟨.refl .., Nat.le_refl _, lv, fun _ a b => absurd b (Nat.not_lt.mpr a), fun _ _ e => .inl e, fun a o' e _ _ h => hs a o' (Ne.symm (h k hk)) e, fun a o' h1 _ e => ⟨o', hs a o' (fun q => I.nofr k hk (q ▸ h1)) e, rfl⟩⟩, ⟨fun b o' e => ?_, I.old, fun j h => let ⟨o, e⟩ := I.live j h; lv _ _ e, I.nofr, I.nofz, I.inj, fun j o' h => ?_, fun a c' h => ?_, fun a h => ⟨(I.frB a h).1, let ⟨o, e, d⟩ := (I.frB a h).2; ⟨o, hs a o (fun q => I.nofr k hk (q ▸ h)) e, d⟩⟩, hg.trans I.gens, ho.trans I.os, I.tab0⟩, ?_⟩
  · refine hs b o' ?_ (I.keep b o' e)
    rintro rfl; rw [I.old k hk] at e; cases e
  · have h' : (if j = k then some o else σ.obj j) = some o' := h
    by_cases hj : j = k
    · subst hj; rw [if_pos rfl] at h'; cases h'; exact ⟨hk, c, hc, hr⟩
    · rw [if_neg hj] at h'
      obtain ⟨a, c', b, d⟩ := I.obj j o' h'
      exact ⟨a, c', hs _ _ (fun q => hj (I.inj j k a hk q)) b, d⟩
  · refine ⟨hs a c' ?_ (I.frz a c' h).1, (I.frz a c' h).2⟩
    rintro rfl; rw [I.nofz k hk] at h; cases h
  · obtain ⟨m, a, b⟩ := L.loc
    exact ⟨L.kind, L.glob, L.bns, ⟨m, a.extBut (fun b o hb e => hs b o hb e) fun q => I.nofr k hk (q ▸ hL), b⟩, L.cel, L.cod⟩

/-- a local is stored -/
noncomputable def setL (x : Str) (v : V) (l : List (Str × V)) : List (Str × V) := (x, v) :: l
theorem lookup_setL {x y : Str} {v : V} {l : List (Str × V)} : (setL x v l).lookup y = if y = x then some v else l.lookup y := by
  unfold setL
  by_cases h : y = x
  · subst h; simp [List.lookup]
  · have : (y == x) = false := by simpa using h
    simp [List.lookup, this, h]
noncomputable def St.set (σ : St) (x : Str) (v : V) : St := { σ with loc := setL x v σ.loc }
theorem Step.set (I : Inv P fr W σ.toHp s) (L : Loc P env W σ s.heap) (hL : env.locals ∈ fr) {x : Str} {v : V} {c : Value} (hv : VR W σ.nxt v c) (hx : env.kindOf x = some .local) {m : Str → Option Value} (hm : s.heap.Ns env.locals m)
    {s' : Shared} (hn : s'.heap.Ns env.locals (fun y => if y = x then some c else m y)) (hs : Heap.SameBut env.locals s.heap s'.heap) (hg : s'.gens = s.gens) (ho : s'.os = s.os) : Step P fr env W σ s W (σ.set x v) s' := by
  have lv : ∀ a o, s.heap.get? a = some o → ∃ o', s'.heap.get? a = some o' := fun a o e => by
    by_cases ha : a = env.locals
    · subst ha; obtain ⟨o', _, _, e', _⟩ := hn; exact ⟨o', e'⟩
    · exact ⟨o, (hs.2 a ha).trans e⟩
  refine ⟨⟨.refl .., Nat.le_refl _, lv, fun _ a b => absurd b (Nat.not_lt.mpr a), fun _ _ e => .inl e, fun a o' e h _ _ => (hs.2 a h).trans e, fun a o' _ h e => ⟨o', (hs.2 a h).trans e, rfl⟩⟩, ⟨fun b o' e => ?_, I.old, fun j h => let ⟨o, e⟩ := I.live j h; lv _ _ e, I.nofr, I.nofz, I.inj, fun j o' h => ?_, fun a c' h => ?_, fun a h => ⟨(I.frB a h).1, by
    by_cases ha : a = env.locals
    · subst ha; obtain ⟨o', es', ep', e', d', _⟩ := hn; exact ⟨o', e', fun vs q => by rw [d'] at q; cases q⟩
    · obtain ⟨o, e, d⟩ := (I.frB a h).2; exact ⟨o, (hs.2 a ha).trans e, d⟩⟩, hg.trans I.gens, ho.trans I.os, I.tab0⟩, ?_⟩
  · refine (hs.2 b ?_).trans (I.keep b o' e)
    rintro rfl; rw [(I.frB _ hL).1] at e; cases e
  · obtain ⟨a, c', b, d⟩ := I.obj j o' h
    exact ⟨a, c', (hs.2 (W.ρ j) fun q => I.nofr j a (by rw [q]; exact hL)).trans b, d⟩
  · refine ⟨(hs.2 a ?_).trans (I.frz a c' h).1, (I.frz a c' h).2⟩
    rintro rfl; exact (I.frz _ _ h).2 hL
  · obtain ⟨m', a, b⟩ := L.loc
    refine ⟨L.kind, L.glob, L.bns, ⟨_, hn, fun y u h => ?_⟩, L.cel, L.cod⟩
    have h' : (setL x v σ.loc).lookup y = some u := h
    rw [lookup_setL] at h'
    by_cases hy : y = x
    · subst hy; rw [if_pos rfl] at h'; cases h'; exact ⟨hx, c, by simp, hv⟩
    · rw [if_neg hy] at h'
      obtain ⟨p, c', q, r⟩ := b y u h'
      refine ⟨p, c', ?_, r⟩
      rw [if_neg hy]
      have hmm : m' y = m y := by
        obtain ⟨o1, es1, e1, g1, d1, k1, f1⟩ := a
        obtain ⟨o2, es2, e2, g2, d2, k2, f2⟩ := hm
        rw [g1] at g2; cases g2; rw [d1] at d2; cases d2
        rw [← f1, ← f2]
      rw [← hmm]; exact q
end
end Mine
end
noncomputable section
set_option Elab.async false
set_option linter.all false
set_option maxRecDepth 100000
namespace Mine
open PySem PySem.W PyProof.Rows

inductive Rs (α : Type) where
  | ok (a : α) (σ : St)
  | bad
noncomputable def Rs.bind {α β : Type} (r : Rs α) (f : α → St → Rs β) : Rs β := match r with
  | .ok a σ => f a σ
  | .bad => .bad

/-- nothing is raised -/
noncomputable def NoE (e : Value) (s' : Shared) : Prop := False
theorem NoE.elim {C : Prop} {e : Value} {s' : Shared} (h : NoE e s') : C := False.elim h
theorem NoE.after {e : Value} {s' : Shared} {e' : Value} {s'' : Shared} {p : Prop} (a : p) (h : NoE e s') : NoE e' s'' := False.elim h

/-- what a frame's run knows of where it stands -/
structure Fm (P : Par) (lv : Nat) (fr : List Nat) (A : Around) (env : Env) : Prop where
  hL : env.locals ∈ fr
  handled : A.handled = none
  units : A.units + 20 * lv + 200 < cLine
  depth : A.depth + 10 * lv + 100 < recursionLimit
  frames : ∃ l, A.frames = some l ∧ ∀ e ∈ l, e.scope.kind ≠ .module ∧ ∃ L, e.frame = some L ∧ L ∈ fr

section
variable (P : Par) (fr : List Nat) (env : Env) (W : Wd) (σ : St) (s : Shared)
noncomputable def Post (r : Rs V) (c : Value) (s' : Shared) : Prop := ∃ v σ' W', r = .ok v σ' ∧ Step P fr env W σ s W' σ' s' ∧ VR W' σ'.nxt v c
noncomputable def PostB (r : Rs Bool) (b : Bool) (s' : Shared) : Prop := ∃ σ' W', r = .ok b σ' ∧ Step P fr env W σ s W' σ' s'
noncomputable def PostL (r : Rs (List V)) (c : List Value) (s' : Shared) : Prop := ∃ v σ' W', r = .ok v σ' ∧ Step P fr env W σ s W' σ' s' ∧ VRs W' σ'.nxt v c
end

section
variable {P : Par} {fr : List Nat} {A : Around} {env : Env} {W W' : Wd} {σ σ' : St} {s s' : Shared}

theorem Post.after {r : Rs V} {c : Value} {s'' : Shared} (a : Step P fr env W σ s W' σ' s') (b : Post P fr env W' σ' s' r c s'') : Post P fr env W σ s r c s'' :=
  let ⟨v, σ'', W'', e, st, h⟩ := b; ⟨v, σ'', W'', e, a.trans st, h⟩
theorem PostB.after {r : Rs Bool} {c : Bool} {s'' : Shared} (a : Step P fr env W σ s W' σ' s') (b : PostB P fr env W' σ' s' r c s'') : PostB P fr env W σ s r c s'' :=
  let ⟨σ'', W'', e, st⟩ := b; ⟨σ'', W'', e, a.trans st⟩
theorem PostL.after {r : Rs (List V)} {c : List Value} {s'' : Shared} (a : Step P fr env W σ s W' σ' s') (b : PostL P fr env W' σ' s' r c s'') : PostL P fr env W σ s r c s'' :=
  let ⟨v, σ'', W'', e, st, h⟩ := b; ⟨v, σ'', W'', e, a.trans st, h⟩
theorem Rs.bind_ok {α β : Type} {r : Rs α} {f : α → St → Rs β} {a : α} {σ : St} (h : r = .ok a σ) : r.bind f = f a σ := by rw [h]; rfl
theorem Rs.bind_ne {α β : Type} {r : Rs α} {f : α → St → Rs β} (h : r.bind f ≠ .bad) : r ≠ .bad := by rintro rfl; exact h rfl

/-- the tree t gives what f says -/
noncomputable def OkE (P : Par) (fr : List Nat) (A : Around) (env : Env) (t : Sem Value) (f : St → Rs V) : Prop :=
  ∀ W σ s, Inv P fr W σ.toHp s → Loc P env W σ s.heap → f σ ≠ .bad → wpAny P.M A t (Post P fr env W σ s (f σ)) NoE s
noncomputable def OkB (P : Par) (fr : List Nat) (A : Around) (env : Env) (t : Sem Bool) (f : St → Rs Bool) : Prop :=
  ∀ W σ s, Inv P fr W σ.toHp s → Loc P env W σ s.heap → f σ ≠ .bad → wpAny P.M A t (PostB P fr env W σ s (f σ)) NoE s
noncomputable def OkL (P : Par) (fr : List Nat) (A : Around) (env : Env) (t : Sem (List Value)) (f : St → Rs (List V)) : Prop :=
  ∀ W σ s, Inv P fr W σ.toHp s → Loc P env W σ s.heap → f σ ≠ .bad → wpAny P.M A t (PostL P fr env W σ s (f σ)) NoE s

/-- first t, then what its value asks -/
theorem then1 {α : Type} {t : Sem Value} {f : St → Rs V} {g : Value → Sem α} {k : V → St → Rs α'} {Q : α → Shared → Prop} {E : Value → Shared → Prop}
    (ht : OkE P fr A env t f) (I : Inv P fr W σ.toHp s) (L : Loc P env W σ s.heap) (hb : (f σ).bind k ≠ .bad)
    (hE : ∀ e s', NoE e s' → E e s')
    (hg : ∀ v c W' σ' s', f σ = .ok v σ' → Step P fr env W σ s W' σ' s' → VR W' σ'.nxt v c → wpAny P.M A (g c) Q E s') :
    wpAny P.M A t (fun c s' => wpAny P.M A (g c) Q E s') E s :=
  wpAny_mono (ht W σ s I L (Rs.bind_ne hb)) (fun c s' ⟨v, σ', W', e, st, hv⟩ => hg v c W' σ' s' e st hv) (fun e s' h => hE e s' h.elim)
end
end Mine
end
noncomputable section
set_option Elab.async false
set_option linter.all false
set_option maxRecDepth 100000
namespace Mine
open PySem PySem.W PyProof.Rows

/-- an operation's answer: it changes no owned object -/
inductive Ov where
  | ok (v : V)
  | bad
noncomputable def Ov.st (r : Ov) (σ : St) : Rs V := match r with
  | .ok v => .ok v σ
  | .bad => .bad

/-- the items of a list, owned or not -/
noncomputable def asList (H : Hp) : V → Option (List V)
  | .list xs => some xs
  | .ref k => (match H.obj k with | some (.list xs) => some xs | _ => Option.none)
  | _ => Option.none

noncomputable def truV (_ : Hp) : V → Option Bool
  | .none => some false
  | .bool b => some b
  | .mt _ _ => some true
  | _ => Option.none
noncomputable def strOf : V → Option Str
  | .str x => some x
  | _ => Option.none
noncomputable def intOf : V → Option Int
  | .int x => some x
  | _ => Option.none
theorem strOf_some {v : V} {x : Str} (h : strOf v = some x) : v = .str x := by
  cases v <;> first | (cases h; rfl) | cases h
theorem intOf_some {v : V} {x : Int} (h : intOf v = some x) : v = .int x := by
  cases v <;> first | (cases h; rfl) | cases h
theorem elim_ok {α β : Type} {o : Option α} {f : α → β} {b : β} (h : o.elim b f ≠ b) : ∃ a, o = some a := by
  cases o with
  | none => exact absurd rfl h
  | some a => exact ⟨a, rfl⟩

noncomputable def intV (f : Int → Int → Ov) (a b : V) : Ov := match a with
  | .int x => (match b with | .int y => f x y | _ => .bad)
  | _ => .bad
noncomputable def catV (H : Hp) (a b : V) : Ov := match asList H a, asList H b with
  | some xs, some ys => if xs.length + ys.length ≤ sizeLine then .ok (.list (xs ++ ys)) else .bad
  | _, _ => .bad
noncomputable def addV (H : Hp) (a b : V) : Ov := match a with
  | .int x => (match b with | .int y => .ok (.int (x + y)) | _ => .bad)
  | .str x => (match b with | .str y => if x.length + y.length ≤ sizeLine then .ok (.str (x ++ y)) else .bad | _ => .bad)
  | a => catV H a b
noncomputable def binV (H : Hp) (op : Operator) (a b : V) : Ov := match op with
  | .Add => addV H a b
  | .Sub => intV (fun x y => .ok (.int (x - y))) a b
  | .Mod => intV (fun x y => if y = 0 then .bad else .ok (.int (x.fmod y))) a b
  | .FloorDiv => intV (fun x y => if y = 0 ∨ Builtin.divisionGoesByPylong x y = true then .bad else .ok (.int (x.fdiv y))) a b
  | _ => .bad

/-- plain data, to a depth -/
noncomputable def dat (H : Hp) : Nat → V → Option PyData
  | 0, _ => Option.none
  | _ + 1, .none => some .none
  | _ + 1, .bool b => some (.bool b)
  | _ + 1, .int i => some (.int i)
  | _ + 1, .str s => some (.str s)
  | n + 1, .list xs => (xs.mapM (dat H n)).map .list
  | n + 1, .tup xs => (xs.mapM (dat H n)).map .tuple
  | n + 1, .ref k => (match H.obj k with | some (.list xs) => (xs.mapM (dat H n)).map .list | _ => Option.none)
  | _, _ => Option.none

noncomputable def eqB (H : Hp) (a b : V) : Option Bool := match dat H 8 a, dat H 8 b with
  | some x, some y => some (PyData.eqv x y)
  | _, _ => Option.none
/-- is it None -/
noncomputable def isNoneB : V → Option Bool
  | .none => some true
  | .int _ => some false
  | _ => Option.none
noncomputable def isB (a b : V) : Option Bool := match b with
  | .none => isNoneB a
  | _ => Option.none
noncomputable def ordB (f : Int → Int → Bool) (a b : V) : Option Bool := match a with
  | .int x => (match b with | .int y => some (f x y) | _ => Option.none)
  | _ => Option.none
noncomputable def cmpB (H : Hp) (op : CmpOp) (a b : V) : Option Bool := match op with
  | .Eq => eqB H a b
  | .NotEq => (eqB H a b).map (!·)
  | .Lt => ordB (fun x y => decide (x < y)) a b
  | .Is => isB a b
  | _ => Option.none
noncomputable def boolO : Option Bool → Ov
  | some b => .ok (.bool b)
  | Option.none => .bad
noncomputable def cmpV (H : Hp) (op : CmpOp) (a b : V) : Ov := boolO (cmpB H op a b)

noncomputable def negV : V → Ov
  | .int a => .ok (.int (-a))
  | _ => .bad

noncomputable def fitsIx (i : Int) : Bool := decide (-(2 ^ 63 : Int) ≤ i) && decide (i < 2 ^ 63)
noncomputable def idxV (H : Hp) (a i : V) : Ov := (intOf i).elim .bad fun k => if fitsIx k = true then (match strOf a with
    | some x => ((seqIndex? k x.length).bind (x.cps[·]?)).elim .bad fun c => .ok (.str ⟨#[c]⟩)
    | Option.none => (asList H a).elim .bad fun xs => ((seqIndex? k xs.length).bind (xs[·]?)).elim .bad .ok) else .bad

noncomputable def asPart : V → Option (Option Int)
  | .none => some Option.none
  | .int i => some (some i)
  | _ => Option.none
noncomputable def cut {α : Type} (xs : List α) (lo hi : Option Int) : List α :=
  (xs.drop (lo.elim 0 (clipAt xs.length))).take (hi.elim xs.length (clipAt xs.length) - lo.elim 0 (clipAt xs.length))
noncomputable def slcV (H : Hp) (a lo hi : V) : Ov := (asPart lo).elim .bad fun l => (asPart hi).elim .bad fun h => (asList H a).elim .bad fun xs => .ok (.list (cut xs l h))

/-- what a loop over a value meets -/
noncomputable def itsV (H : Hp) : V → Option (List V)
  | .rng a b c => some ((List.range (Builtin.Range.rangeSize a b c).toNat).map fun (i : Nat) => .int (a + (i : Int) * c))
  | v => asList H v

structure Cx where
  /-- how deep the calls may go -/
  lvl : Nat := 0
  gl : Str → Option V
  app : V → List V → Hp → Rs V
  get : V → Str → Hp → Option (V × List V)
  fld : V → Str → Hp → Ov

noncomputable def Rs.lift {α : Type} (r : Rs α) (σ : St) : Rs α := match r with
  | .ok a σ' => .ok a { σ with toHp := σ'.toHp }
  | .bad => .bad

noncomputable def condO (b : V) (σ : St) (t : St → Rs V) : Rs (Option V) := match truV σ.toHp b with
  | some true => (t σ).bind fun r σ₁ => .ok (some r) σ₁
  | some false => .ok Option.none σ
  | Option.none => .bad

open Classical in
/-- a comprehension's turns: what it draws from stays as it is -/
noncomputable def turns (v : V) (all : List V) (f : V → St → Rs (Option V)) : List V → St → Rs (List V)
  | [], σ => if itsV σ.toHp v = some all then .ok [] σ else .bad
  | x :: r, σ => if itsV σ.toHp v = some all then (match f x σ with
    | .ok o σ₁ => (turns v all f r σ₁).bind fun vs σ₂ => .ok (o.toList ++ vs) σ₂
    | _ => .bad) else .bad

/-- the values of written arguments -/
noncomputable def argR {α : Type} (v : V) (σ : St) (k : List V → St → Rs α) : Rs α := match v with
  | .list xs => k xs σ
  | _ => .bad
noncomputable def fits (n : Nat) (r : Rs V) : Rs V := if n ≤ sizeLine then r else .bad

/-- one way or the other -/
noncomputable def condR (v : V) (σ : St) (t e : St → Rs V) : Rs V := match truV σ.toHp v with
  | some true => t σ
  | some false => e σ
  | Option.none => .bad

/-- a lambda may be made where the frame's table is ours -/
noncomputable def lamR (σ : St) (v : V) : Rs V := match σ.tbl with
  | some (k, q) => (match σ.obj k with
    | some (.tab q') => if q' = q then .ok v σ else .bad
    | _ => .bad)
  | Option.none => .bad
variable (cx : Cx) in
noncomputable def ev : X → St → Rs V
  | .none, σ => .ok .none σ
  | .bool b, σ => .ok (.bool b) σ
  | .int i, σ => .ok (.int i) σ
  | .str s, σ => .ok (.str s) σ
  | .var x, σ => match σ.loc.lookup x with | some v => .ok v σ | Option.none => .bad
  | .cv x, σ => match σ.cel.lookup x with
    | some k => (match σ.obj k with | some (.cell (some v)) => .ok v σ | _ => .bad)
    | Option.none => .bad
  | .glob x, σ => match cx.gl x with | some v => .ok v σ | Option.none => .bad
  | .bin op a b, σ => (ev a σ).bind fun va σ₁ => (ev b σ₁).bind fun vb σ₂ => (binV σ₂.toHp op va vb).st σ₂
  | .neg a, σ => (ev a σ).bind fun va σ₁ => (negV va).st σ₁
  | .not a, σ => (ev a σ).bind fun va σ₁ => match truV σ₁.toHp va with | some b => .ok (.bool !b) σ₁ | Option.none => .bad
  | .cmp op a b, σ => (ev a σ).bind fun va σ₁ => (ev b σ₁).bind fun vb σ₂ => (cmpV σ₂.toHp op va vb).st σ₂
  | .and a b, σ => (ev a σ).bind fun va σ₁ => condR va σ₁ (ev b) (fun σ₁ => .ok va σ₁)
  | .or a b, σ => (ev a σ).bind fun va σ₁ => condR va σ₁ (fun σ₁ => .ok va σ₁) (ev b)
  | .ite c a b, σ => (ev c σ).bind fun vc σ₁ => condR vc σ₁ (ev a) (ev b)
  | .idx a i, σ => (ev a σ).bind fun va σ₁ => (ev i σ₁).bind fun vi σ₂ => (idxV σ₂.toHp va vi).st σ₂
  | .slc a lo hi, σ => (ev a σ).bind fun va σ₁ => (ev lo σ₁).bind fun vl σ₂ => (ev hi σ₂).bind fun vh σ₃ => (slcV σ₃.toHp va vl vh).st σ₃
  | .attr o f, σ => (ev o σ).bind fun vo σ₁ => (cx.fld vo f σ₁.toHp).st σ₁
  | .list es, σ => (ev es σ).bind fun vs σ₁ => argR vs σ₁ fun xs σ₁ => fits xs.length (.ok (.list xs) σ₁)
  | .tup es, σ => (ev es σ).bind fun vs σ₁ => argR vs σ₁ fun xs σ₁ => fits xs.length (.ok (.tup xs) σ₁)
  | .nil, σ => .ok (.list []) σ
  | .cons a b, σ => (ev a σ).bind fun va σ₁ => (ev b σ₁).bind fun vs σ₂ => argR vs σ₂ fun xs σ₂ => .ok (.list (va :: xs)) σ₂
  | .call f as, σ => (ev f σ).bind fun vf σ₁ => (ev as σ₁).bind fun vs σ₂ => argR vs σ₂ fun xs σ₂ => (cx.app vf xs σ₂.toHp).lift σ₂
  | .meth o m as, σ => (ev o σ).bind fun vo σ₁ => match cx.get vo m σ₁.toHp with
    | some (vf, first) => (ev as σ₁).bind fun vs σ₂ => argR vs σ₂ fun xs σ₂ => (cx.app vf (first ++ xs) σ₂.toHp).lift σ₂
    | Option.none => .bad
  | .comp elt x it cond, σ => (ev it σ).bind fun vi σ₁ => match itsV σ₁.toHp vi with
    | some xs => (turns vi xs (fun v σ₂ => (ev cond { σ₂ with loc := [(x, v)], cel := σ₁.cel, tbl := Option.none }).bind fun b σ₃ => condO b σ₃ (ev elt)) xs σ₁).bind fun vs σ₂ => fits vs.length (.ok (.list vs) { σ₁ with toHp := σ₂.toHp })
    | Option.none => .bad
  | .lam ps b, σ => lamR σ (.clo ps b σ.cel)
  | .named x e, σ => (ev e σ).bind fun v σ₁ => .ok v (σ₁.set x v)
end Mine
end
noncomputable section
set_option Elab.async false
set_option linter.all false
set_option maxRecDepth 100000
namespace Mine
open PySem PySem.W PyProof.Rows

section
variable {P : Par} {fr : List Nat} {A : Around} {env : Env} {W : Wd} {σ : St} {s : Shared}

theorem sizeLine_lt63 : (sizeLine : Int) < 2 ^ 63 := by unfold sizeLine; decide

theorem post_ok {r : Rs V} {v : V} {c : Value} {W' : Wd} {σ' : St} {s' : Shared} (e : r = .ok v σ') (st : Step P fr env W σ s W' σ' s') (h : VR W' σ'.nxt v c) : Post P fr env W σ s r c s' := ⟨v, σ', W', e, st, h⟩

/-- a list, owned or not, in the heap -/
theorem list_at (I : Inv P fr W σ.toHp s) {v : V} {c : Value} {xs : List V} (hv : VR W σ.nxt v c) (e : asList σ.toHp v = some xs) :
    ∃ a items, c = .ref a ∧ s.heap.IsList a items ∧ VRs W σ.nxt xs items.toList ∧ items.size ≤ sizeLine := by
  cases hv with
  | list a b d z r _ => cases e; exact ⟨_, _, rfl, ⟨_, (I.frz _ _ a).1, b, _, d⟩, r, z⟩
  | ref h =>
    unfold asList at e
    dsimp only at e
    split at e
    · rename_i ys ho
      cases e
      obtain ⟨_, ob, hg, hr⟩ := I.obj _ _ ho
      cases hr with
      | list r z => exact ⟨_, _, rfl, ⟨_, hg, rfl, _, rfl⟩, r, z⟩
    · cases e
  | _ => cases e

theorem lookup_match_bool : typeLookup (.type "re.Match") "__bool__" = pure none := by rw [typeLookup_type, builtinLookup_eq_fast]; kernel_rfl
theorem lookup_match_len : typeLookup (.type "re.Match") "__len__" = pure none := by rw [typeLookup_type, builtinLookup_eq_fast]; kernel_rfl
theorem truthy_match {M : Model} {E : Value → Shared → Prop} {a : Nat} {Q : Bool → Shared → Prop} (hT : s.TypeIs (.ref a) "re.Match") (h : Q true s) : wpAny M A (truthy (.ref a)) Q E s := by
  unfold truthy
  refine wpAny_bind (wpAny_callSpecial?_none hT lookup_match_bool ?_)
  refine wpAny_bind (wpAny_specialOf hT lookup_match_len ?_)
  exact wpAny_pure h
theorem truthy_ok {E : Value → Shared → Prop} (I : Inv P fr W σ.toHp s) {v : V} {c : Value} {b : Bool} {Q : Bool → Shared → Prop} (hv : VR W σ.nxt v c) (e : truV σ.toHp v = some b)
    (h : ∀ t, Q b { s with toks := t }) : wpAny P.M A (truthy c) Q E s := by
  cases hv with
  | none => cases e; exact truthy_none (h s.toks)
  | bool b => cases e; exact wpAny_truthy_bool (h s.toks)
  | mt a b c d e' f g _ => cases e; exact truthy_match ⟨_, (I.frz _ _ a).1, b⟩ (h s.toks)
  | _ => cases e

theorem strOk_append {x y : Str} (hx : PyData.strOk x = true) (hy : PyData.strOk y = true) : PyData.strOk (x ++ y) = true := by
  show (x.cps ++ y.cps).all _ = true
  rw [Array.all_append, Bool.and_eq_true]; exact ⟨hx, hy⟩
theorem VR.strLe {W : Wd} {n : Nat} {x : Str} {c : Value} (h : VR W n (.str x) c) : x.length ≤ sizeLine := let ⟨_, _, a, _⟩ := h.inv_str; a

theorem newList_ok (I : Inv P fr W σ.toHp s) (L : Loc P env W σ s.heap) {xs : List V} {items : Array Value} (hr : VRs W σ.nxt xs items.toList) (hz : items.size ≤ sizeLine) {s' : Shared} (e : s'.heap = s.heap.push { cls := .type "list", data := .seq items }) (hg : s'.gens = s.gens) (ho : s'.os = s.os) :
    Post P fr env W σ s (.ok (.list xs) σ) (.ref s.heap.objs.size) s' := by
  have st := Step.freeze I L { cls := .type "list", data := .seq items } rfl e hg ho
  refine ⟨_, σ, _, rfl, st, .list (o := { cls := .type "list", data := .seq items }) (items := items) (e := 0) ?_ rfl rfl hz (hr.mono st.nx.wle (Nat.le_refl _)) rfl⟩
  show (if s.heap.objs.size = s.heap.objs.size then _ else _) = _
  rw [if_pos rfl]
theorem newTup_ok (I : Inv P fr W σ.toHp s) (L : Loc P env W σ s.heap) {xs : List V} {items : Array Value} (hr : VRs W σ.nxt xs items.toList) (hz : items.size ≤ sizeLine) {s' : Shared} (e : s'.heap = s.heap.push { cls := .type "tuple", data := .seq items }) (hg : s'.gens = s.gens) (ho : s'.os = s.os) :
    Post P fr env W σ s (.ok (.tup xs) σ) (.ref s.heap.objs.size) s' := by
  have st := Step.freeze I L { cls := .type "tuple", data := .seq items } rfl e hg ho
  refine ⟨_, σ, _, rfl, st, .tup (o := { cls := .type "tuple", data := .seq items }) (items := items) (e := 0) ?_ rfl rfl hz (hr.mono st.nx.wle (Nat.le_refl _))⟩
  show (if s.heap.objs.size = s.heap.objs.size then _ else _) = _
  rw [if_pos rfl]

theorem add_lists_raw {E : Value → Shared → Prop} {l b : Addr} {i1 i2 : Array Value} {Q : Value → Shared → Prop} (hl : s.heap.IsList l i1) (hb : s.heap.IsList b i2)
    (h : Q (.ref s.heap.objs.size) { s with heap := s.heap.push { cls := .type "list", data := .seq (i1 ++ i2) } }) (hsz : i1.size + i2.size ≤ sizeLine) :
    wpAny P.M A (binaryOp .Add (.ref l) (.ref b)) Q E s := by
  obtain ⟨⟨cls, dd, data, sl⟩, ho, hc, n, hd⟩ := id hl
  obtain ⟨⟨cls2, dd2, data2, sl2⟩, ho2, hc2, n2, hd2⟩ := id hb
  simp only at hc hd hc2 hd2
  subst hc hd hc2 hd2
  exact concat_meets ⟨_, ho, rfl⟩ ⟨_, ho2, rfl⟩ noFill_list_add seq_list_add PySem.F.slot_list_add PySem.F.entry_list_add (PySem.F.args_list_add_2 _ _) (list_addW l b i1 i2 n n2 dd dd2 sl sl2 hsz) ⟨ho, ho2, h⟩

theorem str_nil_l {x y : Str} (h : (x.length == 0) = true) : x ++ y = y := by
  have h0 : x.cps.size = 0 := by simpa [Str.length] using h
  have : x.cps = #[] := Array.eq_empty_of_size_eq_zero h0
  show Str.mk (x.cps ++ y.cps) = y
  rw [this]; simp
theorem str_nil_r {x y : Str} (h : (y.length == 0) = true) : x ++ y = x := by
  have h0 : y.cps.size = 0 := by simpa [Str.length] using h
  have : y.cps = #[] := Array.eq_empty_of_size_eq_zero h0
  show Str.mk (x.cps ++ y.cps) = x
  rw [this]; simp
theorem intV_inv {f : Int → Int → Ov} {a b : V} (h : (intV f a b).st σ ≠ .bad) : ∃ x y, a = .int x ∧ b = .int y := by
  unfold intV at h
  split at h
  · split at h
    · exact ⟨_, _, rfl, rfl⟩
    · exact absurd rfl h
  · exact absurd rfl h

theorem catV_ok (I : Inv P fr W σ.toHp s) (L : Loc P env W σ s.heap) {a b : V} {ca cb : Value} (ha : VR W σ.nxt a ca) (hb : VR W σ.nxt b cb) (hne : (catV σ.toHp a b).st σ ≠ .bad) :
    wpAny P.M A (binaryOp .Add ca cb) (Post P fr env W σ s ((catV σ.toHp a b).st σ)) NoE s := by
  unfold catV at hne ⊢
  split at hne
  · rename_i xs ys h1 h2
    split at hne
    · rename_i hsz
      rw [if_pos hsz]
      obtain ⟨l, i1, rfl, l1, r1, z1⟩ := list_at I ha h1
      obtain ⟨l', i2, rfl, l2, r2, z2⟩ := list_at I hb h2
      have q1 := r1.length
      have q2 := r2.length
      rw [Array.length_toList] at q1 q2
      exact add_lists_raw l1 l2 (newList_ok I L (by simpa using r1.append r2) (by rw [Array.size_append]; omega) rfl rfl rfl) (by omega)
    · exact absurd rfl hne
  · exact absurd rfl hne
theorem addV_ok (I : Inv P fr W σ.toHp s) (L : Loc P env W σ s.heap) {a b : V} {ca cb : Value} (ha : VR W σ.nxt a ca) (hb : VR W σ.nxt b cb) (hne : (addV σ.toHp a b).st σ ≠ .bad) :
    wpAny P.M A (binaryOp .Add ca cb) (Post P fr env W σ s ((addV σ.toHp a b).st σ)) NoE s := by
  revert hne
  unfold addV
  split
  · split <;> intro hne
    · obtain ⟨_, rfl⟩ := ha.inv_int; obtain ⟨_, rfl⟩ := hb.inv_int
      exact PySem.P.add_int (post_ok rfl (Step.toks I L _) (.int ..))
    · exact absurd rfl hne
  · rename_i x
    split <;> intro hne
    · rename_i y
      have hx := ha.strLe
      have hy := hb.strLe
      split at hne
      · rename_i hsz
        rw [if_pos hsz]
        obtain ⟨t, rfl, _, hx'⟩ := ha.inv_str
        obtain ⟨u, rfl, _, hy'⟩ := hb.inv_str
        refine PySem.P.add_str ?_
        split
        · rename_i h; exact post_ok rfl (Step.refl I L) (by rw [str_nil_l h]; exact .str _ _ hy hy')
        · split
          · rename_i h; exact post_ok rfl (Step.refl I L) (by rw [str_nil_r h]; exact .str _ _ hx hx')
          · have hl : (x ++ y).length ≤ sizeLine := by show (x.cps ++ y.cps).size ≤ _; rw [Array.size_append]; exact hsz
            exact ⟨hl, post_ok rfl (Step.toks I L _) (.str _ _ hl (strOk_append hx' hy'))⟩
      · exact absurd rfl hne
    · exact absurd rfl hne
  · exact catV_ok I L ha hb

theorem binV_ok (I : Inv P fr W σ.toHp s) (L : Loc P env W σ s.heap) {op : Operator} {a b : V} {ca cb : Value} (ha : VR W σ.nxt a ca) (hb : VR W σ.nxt b cb) (hne : (binV σ.toHp op a b).st σ ≠ .bad) :
    wpAny P.M A (binaryOp op ca cb) (Post P fr env W σ s ((binV σ.toHp op a b).st σ)) NoE s := by
  cases op with
  | Add => exact addV_ok I L ha hb hne
  | Sub =>
    obtain ⟨x, y, rfl, rfl⟩ := intV_inv hne
    obtain ⟨_, rfl⟩ := ha.inv_int; obtain ⟨_, rfl⟩ := hb.inv_int
    exact PySem.P.sub_int (post_ok rfl (Step.toks I L _) (.int ..))
  | Mod =>
    obtain ⟨x, y, rfl, rfl⟩ := intV_inv hne
    revert hne
    show (if y = 0 then Ov.bad else _).st σ ≠ .bad → wpAny _ _ _ (Post P fr env W σ s ((if y = 0 then Ov.bad else _).st σ)) NoE _
    obtain ⟨_, rfl⟩ := ha.inv_int; obtain ⟨_, rfl⟩ := hb.inv_int
    intro hne
    split at hne
    · exact absurd rfl hne
    · rename_i h0; rw [if_neg h0]; exact mod_int' h0 (post_ok rfl (Step.toks I L _) (.int ..))
  | FloorDiv =>
    obtain ⟨x, y, rfl, rfl⟩ := intV_inv hne
    revert hne
    show (if y = 0 ∨ Builtin.divisionGoesByPylong x y = true then Ov.bad else _).st σ ≠ .bad → wpAny _ _ _ (Post P fr env W σ s ((if y = 0 ∨ Builtin.divisionGoesByPylong x y = true then Ov.bad else _).st σ)) NoE _
    obtain ⟨_, rfl⟩ := ha.inv_int; obtain ⟨_, rfl⟩ := hb.inv_int
    intro hne
    split at hne
    · exact absurd rfl hne
    · rename_i h0
      rw [if_neg h0]
      refine floordiv_int (fun q => h0 (.inl q)) (post_ok rfl (Step.toks I L _) (.int ..)) (hp := .inl ?_)
      cases hd : Builtin.divisionGoesByPylong _ _ with
      | false => rfl
      | true => exact absurd (.inr hd) h0
  | _ => exact absurd rfl hne

inductive All2 {α β : Type} (R : α → β → Prop) : List α → List β → Prop
  | nil : All2 R [] []
  | cons {a b l m} : R a b → All2 R l m → All2 R (a :: l) (b :: m)

theorem mapM_some {α β : Type} {f : α → Option β} : ∀ {l : List α} {r : List β}, l.mapM f = some r → All2 (fun a b => f a = some b) l r
  | [], r, h => by simp at h; subst h; exact .nil
  | a :: l, r, h => by
    rw [List.mapM_cons] at h
    obtain ⟨b, hb, h⟩ := Option.bind_eq_some_iff.mp h
    obtain ⟨bs, hbs, h⟩ := Option.bind_eq_some_iff.mp h
    cases h
    exact .cons hb (mapM_some hbs)

theorem reads_all {h : Heap} {W : Wd} {n m : Nat} {f : V → Option PyData} (hf : ∀ v c d, VR W n v c → f v = some d → ∃ as, Reads h c d as ∧ d.canLay0 = true ∧ d.depth ≤ m)
    {xs : List V} {cs : List Value} {ds : List PyData} (hv : VRs W n xs cs) : All2 (fun a b => f a = some b) xs ds → ∃ as, ReadsAll h cs ds as ∧ PyData.canLayAll0 ds = true ∧ PyData.depthAll ds ≤ m := by
  refine hv.ind (C := fun xs cs => ∀ ds, All2 (fun a b => f a = some b) xs ds → ∃ as, ReadsAll h cs ds as ∧ PyData.canLayAll0 ds = true ∧ PyData.depthAll ds ≤ m) ?_ ?_ ds
  · intro ds q
    cases q
    exact ⟨[], .nil, rfl, Nat.zero_le _⟩
  · intro x c xs cs a b ih ds q
    cases q with
    | cons e r =>
      obtain ⟨as, h1, h2, h3⟩ := hf _ _ _ a e
      obtain ⟨bs, g1, g2, g3⟩ := ih _ r
      refine ⟨_, .cons h1 g1, ?_, Nat.max_le.mpr ⟨h3, g3⟩⟩
      show (_ && _) = true
      rw [h2, g2]; rfl

theorem dat_reads (I : Inv P fr W σ.toHp s) : ∀ (m : Nat) (v : V) (c : Value) (d : PyData), VR W σ.nxt v c → dat σ.toHp m v = some d → ∃ as, Reads s.heap c d as ∧ d.canLay0 = true ∧ d.depth ≤ m := by
  intro m
  induction m with
  | zero => intro v c d hv e; cases e
  | succ m ih =>
    intro v c d hv e
    cases hv with
    | none => cases e; exact ⟨_, .none, rfl, Nat.zero_le _⟩
    | bool b => cases e; exact ⟨_, .bool b, rfl, Nat.zero_le _⟩
    | int i t => cases e; exact ⟨_, .int i t, rfl, Nat.zero_le _⟩
    | str x t _ o => cases e; exact ⟨_, .str x t, o, Nat.zero_le _⟩
    | list a b d' z r _ =>
      obtain ⟨ds, h1, rfl⟩ := Option.map_eq_some_iff.mp (show Option.map _ (List.mapM _ _) = some d from e)
      obtain ⟨as, g1, g2, g3⟩ := reads_all ih r (mapM_some h1)
      exact ⟨_, .list (I.frz _ _ a).1 b d' g1, g2, Nat.succ_le_succ g3⟩
    | tup a b d' z r =>
      obtain ⟨ds, h1, rfl⟩ := Option.map_eq_some_iff.mp (show Option.map _ (List.mapM _ _) = some d from e)
      obtain ⟨as, g1, g2, g3⟩ := reads_all ih r (mapM_some h1)
      exact ⟨_, .tuple (I.frz _ _ a).1 b d' g1, g2, Nat.succ_le_succ g3⟩
    | ref hk =>
      unfold dat at e
      split at e
      · rename_i ys ho
        obtain ⟨ds, h1, rfl⟩ := Option.map_eq_some_iff.mp e
        obtain ⟨_, ob, hg, hr⟩ := I.obj _ _ ho
        cases hr with
        | list r z =>
          obtain ⟨as, g1, g2, g3⟩ := reads_all ih r (mapM_some h1)
          exact ⟨_, .list hg rfl rfl g1, g2, Nat.succ_le_succ g3⟩
      · cases e
    | _ => cases e

theorem boolO_inv {o : Option Bool} (h : (boolO o).st σ ≠ .bad) : ∃ b, o = some b := by
  cases o with
  | none => exact absurd rfl h
  | some b => exact ⟨b, rfl⟩
theorem not_inv {o : Option Bool} {b : Bool} (h : o.map (!·) = some b) : o = some !b := by
  cases o with
  | none => cases h
  | some c => cases h; simp
theorem eqB_inv {H : Hp} {a b : V} {r : Bool} (h : eqB H a b = some r) : ∃ x y, dat H 8 a = some x ∧ dat H 8 b = some y ∧ r = PyData.eqv x y := by
  unfold eqB at h
  split at h
  · rename_i x y h1 h2; cases h; exact ⟨x, y, h1, h2, rfl⟩
  · cases h
theorem ordB_inv {f : Int → Int → Bool} {a b : V} {r : Bool} (h : ordB f a b = some r) : ∃ x y, a = .int x ∧ b = .int y ∧ r = f x y := by
  unfold ordB at h
  split at h
  · split at h
    · cases h; exact ⟨_, _, rfl, rfl, rfl⟩
    · cases h
  · cases h
theorem isB_inv {a b : V} {r : Bool} (h : isB a b = some r) : b = .none ∧ isNoneB a = some r := by
  unfold isB at h
  split at h
  · exact ⟨rfl, h⟩
  · cases h
theorem isNone_ok {W : Wd} {n : Nat} {a : V} {ca : Value} {r : Bool} (ha : VR W n a ca) (h : isNoneB a = some r) : plainIs ca .none = true ∧ (ca == .none) = r := by
  cases ha <;> first | (cases h; exact ⟨rfl, rfl⟩) | (cases h; done)

theorem cmpB_ok {lv : Nat} (F : Fm P lv fr A env) (I : Inv P fr W σ.toHp s) (L : Loc P env W σ s.heap) {op : CmpOp} {a b : V} {ca cb : Value} (ha : VR W σ.nxt a ca) (hb : VR W σ.nxt b cb) {r : Bool} (hr : cmpB σ.toHp op a b = some r)
    {Q : Value → Shared → Prop} {E : Value → Shared → Prop} (hQ : Q (.bool r) s) : wpAny P.M A (compareOp op ca cb) Q E s := by
  have U := F.units
  have two : ∀ {x y : PyData}, dat σ.toHp 8 a = some x → dat σ.toHp 8 b = some y → ∃ as bs, Reads s.heap ca x as ∧ Reads s.heap cb y bs ∧ x.canLay0 = true ∧ y.canLay0 = true ∧ A.units + min x.depth y.depth < cLine := by
    intro x y h1 h2
    obtain ⟨as, r1, r2, r3⟩ := dat_reads I 8 a ca x ha h1
    obtain ⟨bs, g1, g2, g3⟩ := dat_reads I 8 b cb y hb h2
    exact ⟨as, bs, r1, g1, r2, g2, Nat.lt_of_le_of_lt (Nat.add_le_add (Nat.le_add_right _ (20 * lv)) (Nat.le_trans (Nat.min_le_left _ _) (Nat.le_trans r3 (by decide)))) U⟩
  cases op with
  | Eq =>
    obtain ⟨x, y, h1, h2, rfl⟩ := eqB_inv hr
    obtain ⟨as, bs, q1, q2, q3, q4, q5⟩ := two h1 h2
    exact SeqAt.compareEq_reads q1 q2 q3 q4 q5 hQ
  | NotEq =>
    obtain ⟨x, y, h1, h2, h3⟩ := eqB_inv (not_inv hr)
    obtain ⟨as, bs, q1, q2, q3, q4, q5⟩ := two h1 h2
    exact SeqAt.compareNe_reads q1 q2 q3 q4 q5 (by rw [← h3, Bool.not_not]; exact hQ)
  | Lt => obtain ⟨x, y, rfl, rfl, rfl⟩ := ordB_inv hr; obtain ⟨_, rfl⟩ := ha.inv_int; obtain ⟨_, rfl⟩ := hb.inv_int; exact PySem.P.lt_int hQ
  | Is =>
    obtain ⟨rfl, h⟩ := isB_inv hr
    cases hb
    obtain ⟨h1, h2⟩ := isNone_ok ha h
    exact wpAny_is_plain h1 (by rw [h2]; exact hQ)
  | _ => cases hr

theorem cmpV_ok {lv : Nat} (F : Fm P lv fr A env) (I : Inv P fr W σ.toHp s) (L : Loc P env W σ s.heap) {op : CmpOp} {a b : V} {ca cb : Value} (ha : VR W σ.nxt a ca) (hb : VR W σ.nxt b cb) (hne : (cmpV σ.toHp op a b).st σ ≠ .bad) :
    wpAny P.M A (compareOp op ca cb) (Post P fr env W σ s ((cmpV σ.toHp op a b).st σ)) NoE s := by
  obtain ⟨r, hr⟩ := boolO_inv hne
  have e : cmpV σ.toHp op a b = .ok (.bool r) := by unfold cmpV; rw [hr]; rfl
  rw [e]
  exact cmpB_ok F I L ha hb hr (post_ok rfl (Step.refl I L) (.bool _))

theorem negV_ok (I : Inv P fr W σ.toHp s) (L : Loc P env W σ s.heap) {a : V} {ca : Value} (ha : VR W σ.nxt a ca) (hne : (negV a).st σ ≠ .bad) :
    wpAny P.M A (unaryOp .USub ca) (Post P fr env W σ s ((negV a).st σ)) NoE s := by
  cases ha with
  | int i t => exact PySem.P.neg_int (post_ok rfl (Step.toks I L _) (.int ..))
  | _ => exact absurd rfl hne
end
end Mine
end
noncomputable section
set_option Elab.async false
set_option linter.all false
set_option maxRecDepth 100000
namespace Mine
open PySem PySem.W PyProof.Rows

section
variable {P : Par} {fr : List Nat} {A : Around} {env : Env} {W : Wd} {σ : St} {s : Shared}

theorem subscripted_plain {sl : Expr} (h : isSlice sl = false) (o i : Value) : subscripted sl false o i = operate [o, i] (getItem o i) := by
  cases sl <;> first | rfl | cases h

theorem seqIx_some {k : Int} {n j : Nat} (h : seqIndex? k n = some j) : (0 ≤ k ∧ k < n ∧ k.toNat = j) ∨ (k < 0 ∧ 0 ≤ k + n ∧ (k + n).toNat = j) := by
  unfold seqIndex? at h
  by_cases h0 : k < 0
  · simp only [h0, if_true] at h
    split at h
    · rename_i q; simp only [Bool.and_eq_true, decide_eq_true_eq] at q; cases h; exact .inr ⟨h0, q.1, rfl⟩
    · cases h
  · simp only [h0, if_false] at h
    split at h
    · rename_i q; simp only [Bool.and_eq_true, decide_eq_true_eq] at q; cases h; exact .inl ⟨q.1, q.2, rfl⟩
    · cases h
theorem seqIx_lt {k : Int} {n j : Nat} (h : seqIndex? k n = some j) : j < n := by
  rcases seqIx_some h with ⟨a, b, c⟩ | ⟨a, b, c⟩ <;> omega

theorem getItem_list_any {E : Value → Shared → Prop} {l : Addr} {items : Array Value} {k : Int} {t : Tok} {j : Nat} {x : Value} {Q : Value → Shared → Prop} (hl : s.heap.IsList l items)
    (hf : fitsIx k = true) (hj : seqIndex? k items.size = some j) (hx : items[j]? = some x) (h : Q x s) : wpAny P.M A (getItem (.ref l) (.int k t)) Q E s := by
  unfold fitsIx at hf
  simp only [Bool.and_eq_true, decide_eq_true_eq] at hf
  rcases seqIx_some hj with ⟨h0, h1, e⟩ | ⟨h0, h1, e⟩
  · exact wpAny_getItem_list hl h0 hf.2 (by rw [e]; exact hx) h
  · exact wpAny_getItem_list_neg hl h0 (by omega) hf.1 (by rw [e]; exact hx) h

theorem strOk_get {x : Str} (h : PyData.strOk x = true) {j c : Nat} (hc : x.cps[j]? = some c) : PyData.strOk ⟨#[c]⟩ = true := by
  have := Array.all_eq_true_iff_forall_mem.mp (show x.cps.all (· < 0x110000) = true from h) c (Array.mem_of_getElem? hc)
  show (#[c] : Array Nat).all _ = true
  simpa using this

theorem idxV_ok {a i : V} (I : Inv P fr W σ.toHp s) (L : Loc P env W σ s.heap) {ca ci : Value} (ha : VR W σ.nxt a ca) (hi : VR W σ.nxt i ci) (hne : (idxV σ.toHp a i).st σ ≠ .bad) {value sl : Expr} (hsl : isSlice sl = false) :
    wpAny P.M A (subscriptTail value sl ca ci) (Post P fr env W σ s ((idxV σ.toHp a i).st σ)) NoE s := by
  have hne' : idxV σ.toHp a i ≠ .bad := fun q => hne (by rw [q]; rfl)
  clear hne
  obtain ⟨k, ei⟩ := elim_ok hne'
  obtain rfl := intOf_some ei
  obtain ⟨u, rfl⟩ := hi.inv_int
  by_cases hf : fitsIx k = true
  · cases es : strOf a with
    | some x =>
      obtain rfl := strOf_some es
      have he : idxV σ.toHp (.str x) (.int k) = ((seqIndex? k x.length).bind (x.cps[·]?)).elim .bad fun c => .ok (.str ⟨#[c]⟩) := if_pos hf
      rw [he] at hne' ⊢
      obtain ⟨c, hc⟩ := elim_ok hne'
      rw [hc]
      obtain ⟨t, rfl, hz, hok⟩ := ha.inv_str
      refine tail_any (typeIs_str s x t) PySem.F.slot_str_getitem.lookup ?_ (subscripted_plain hsl _ _)
      have hr : (decide (k < -(2 ^ 63 : Int)) || decide (k ≥ 2 ^ 63)) = false := by
        unfold fitsIx at hf
        rw [Bool.and_eq_true, decide_eq_true_eq, decide_eq_true_eq] at hf
        rw [Bool.or_eq_false_iff, decide_eq_false_iff_not, decide_eq_false_iff_not]
        exact ⟨Int.not_lt.mpr hf.1, Int.not_le.mpr hf.2⟩
      obtain ⟨j, h1, h2⟩ := Option.bind_eq_some_iff.mp hc
      exact PySem.P.getItem_str hr hc (post_ok rfl (Step.toks I L _) (.str _ _ (by show 1 ≤ sizeLine; decide) (strOk_get hok h2)))
    | none =>
      have he : idxV σ.toHp a (.int k) = (asList σ.toHp a).elim .bad fun xs => ((seqIndex? k xs.length).bind (xs[·]?)).elim .bad .ok := by
        refine (if_pos hf).trans ?_
        rw [es]
      rw [he] at hne' ⊢
      obtain ⟨xs, hx⟩ := elim_ok hne'
      rw [hx] at hne' ⊢
      obtain ⟨v, hv⟩ := elim_ok (show ((seqIndex? k xs.length).bind (xs[·]?)).elim Ov.bad Ov.ok ≠ .bad from hne')
      have hv' : (some xs).elim Ov.bad (fun xs => ((seqIndex? k xs.length).bind (xs[·]?)).elim .bad .ok) = .ok v := by
        show ((seqIndex? k xs.length).bind (xs[·]?)).elim Ov.bad Ov.ok = _
        rw [hv]; rfl
      rw [hv']
      obtain ⟨l, items, rfl, hl, hr, hz⟩ := list_at I ha hx
      have hlen := hr.length
      rw [Array.length_toList] at hlen
      refine tail_any hl.typeIs slot_list_getitem.lookup ?_ (subscripted_plain hsl _ _)
      obtain ⟨j, h1, h2⟩ := Option.bind_eq_some_iff.mp hv
      obtain ⟨c, g1, g2⟩ := hr.get h2
      exact getItem_list_any hl hf (by rw [hlen]; exact h1) (by rw [← Array.getElem?_toList]; exact g1) (post_ok rfl (Step.refl I L) g2)
  · exact absurd (if_neg hf) hne'
theorem idx_list {H : Hp} {a : V} {i : Int} {xs : List V} {j : Nat} {v : V} (hs : strOf a = none) (h : asList H a = some xs) (hf : fitsIx i = true) (hq : seqIndex? i xs.length = some j) (hx : xs[j]? = some v) : idxV H a (.int i) = .ok v := by
  refine (if_pos hf).trans ?_
  rw [hs]
  show (asList H a).elim Ov.bad _ = _
  rw [h]
  show ((seqIndex? i xs.length).bind (xs[·]?)).elim Ov.bad Ov.ok = _
  rw [hq]
  show (xs[j]?).elim Ov.bad Ov.ok = _
  rw [hx]; rfl
theorem idx_str {H : Hp} {x : Str} {i : Int} {j c : Nat} (hf : fitsIx i = true) (hq : seqIndex? i x.length = some j) (hx : x.cps[j]? = some c) : idxV H (.str x) (.int i) = .ok (.str ⟨#[c]⟩) := by
  refine (if_pos hf).trans ?_
  show ((seqIndex? i x.length).bind (x.cps[·]?)).elim Ov.bad _ = _
  rw [hq]
  show (x.cps[j]?).elim Ov.bad _ = _
  rw [hx]; rfl

theorem asPart_is {W : Wd} {n : Nat} {v : V} {c : Value} {p : Option Int} (hv : VR W n v c) (e : asPart v = some p) : ∃ q : Option (Int × Tok), c = partValue q ∧ p = q.map (·.1) ∧ IsPart c p := by
  cases hv with
  | none => cases e; exact ⟨none, rfl, rfl, .none⟩
  | int i t => cases e; exact ⟨some (i, t), rfl, rfl, .int i t⟩
  | _ => cases e

theorem VRs.cut {W : Wd} {n : Nat} {xs : List V} {cs : List Value} (h : VRs W n xs cs) (l u : Option Int) : VRs W n (Mine.cut xs l u) (Mine.cut cs l u) := by
  unfold Mine.cut
  rw [h.length]
  exact (h.drop _).take _

theorem slcV_ok (I : Inv P fr W σ.toHp s) (L : Loc P env W σ s.heap) {a l u : V} {ca cl cu : Value} (ha : VR W σ.nxt a ca) (hl : VR W σ.nxt l cl) (hu : VR W σ.nxt u cu) (hne : (slcV σ.toHp a l u).st σ ≠ .bad) {value lo hi p} :
    wpAny P.M A (subscriptTail value (.Slice lo hi Option.none p) ca (.ref s.heap.objs.size)) (Post P fr env W σ s ((slcV σ.toHp a l u).st σ)) NoE { s with heap := s.heap.push { cls := .type "slice", data := .fields #[cl, cu, .none] } } := by
  have st0 : Step P fr env W σ s W σ { s with heap := s.heap.push { cls := .type "slice", data := .fields #[cl, cu, .none] } } := Step.push I L _ rfl rfl rfl
  have hne' : slcV σ.toHp a l u ≠ .bad := fun q => hne (by rw [q]; rfl)
  clear hne
  obtain ⟨l', e1⟩ := elim_ok hne'
  obtain ⟨q1, rfl, rfl, i1⟩ := asPart_is hl e1
  obtain ⟨u', e2⟩ := elim_ok (show (asPart u).elim Ov.bad _ ≠ .bad from fun q => hne' (by unfold slcV; rw [e1]; exact q))
  obtain ⟨q2, rfl, rfl, i2⟩ := asPart_is hu e2
  have he : slcV σ.toHp a l u = (asList σ.toHp a).elim .bad fun xs => .ok (.list (cut xs (q1.map (·.1)) (q2.map (·.1)))) := by unfold slcV; rw [e1, e2]; rfl
  rw [he] at hne' ⊢
  obtain ⟨xs, hx⟩ := elim_ok hne'
  rw [hx]
  obtain ⟨k, items, rfl, hL, hr, hz⟩ := list_at st0.inv ha hx
  refine tail_any hL.typeIs slot_list_getitem.lookup ?_ (ops := [.ref s.heap.objs.size, .ref k]) rfl
  refine wpAny_getItem_list_slice hL (Heap.IsSliceOf.new ..) i1 i2 .none (by simp) ?_ hz
  have e : (slicePick items (q1.map (·.1)) (q2.map (·.1)) none).toList = Mine.cut items.toList (q1.map (·.1)) (q2.map (·.1)) := by
    rw [slicePick_plain]; unfold Mine.cut; rw [Array.length_toList]
  refine Post.after st0 ?_
  exact newList_ok (items := slicePick items (q1.map (·.1)) (q2.map (·.1)) none) st0.inv st0.loc (by rw [e]; exact hr.cut _ _) (Nat.le_trans (slicePick_size_le items (q1.map (·.1)) (q2.map (·.1)) none) hz) rfl rfl rfl
end
end Mine
end
noncomputable section
set_option Elab.async false
set_option linter.all false
set_option maxRecDepth 100000
namespace Mine
open PySem PySem.W PyProof.Rows

/-- what the function's scope says of its names holds of the frame -/
structure ScOk (sc : Scope) (env : Env) : Prop where
  loc : ∀ x, sc.names.lookup x = some .local → env.kindOf x = some .local
  glob : ∀ x, sc.names.lookup x = some .globalImplicit → env.kindOf x = some .globalImplicit
  cel : ∀ x, (sc.names.lookup x = some .cell ∨ sc.names.lookup x = some .free) → env.kindOf x = some .cell ∨ env.kindOf x = some .free
  cell : ∀ x, sc.names.lookup x = some .cell → env.kindOf x = some .cell
  has : ∀ x, (env.kindOf x = some .cell ∨ env.kindOf x = some .free) → ∃ a, env.cells.lookup x = some a

noncomputable def truRs (v : V) (σ : St) : Rs Bool := match truV σ.toHp v with | some b => .ok b σ | Option.none => .bad
noncomputable def tr (f : St → Rs V) (σ : St) : Rs Bool := (f σ).bind truRs
noncomputable def asArgs (f : St → Rs V) (σ : St) : Rs (List V) := (f σ).bind fun v σ' => argR v σ' fun xs σ' => .ok xs σ'

/-- who keeps a call's things: it is asked, and nothing is changed -/
noncomputable def Keeps (M : Model) (A : Around) (cf : Value) (s : Shared) : Prop := ∀ (E : Value → Shared → Prop) (Q : Keeper → Shared → Prop), (∀ k, Q k s) → wpAny M A (keeperOf cf) Q E s

/-- what the making of a lambda asks of the top -/
noncomputable def LamOk (P : Par) : Prop := ∃ mg bm ob, P.B.Ns mainGlobals mg ∧ mg "__builtins__" = some (.ref bm) ∧ bm ≠ builtinsNs ∧ P.B.get? bm = some ob ∧ ob.cls = .type "module" ∧ ob.dict = some builtinsNs ∧ ob.data = .plain
structure CxOk (P : Par) (cx : Cx) : Prop where
  lam : LamOk P
  gl : ∀ x v, cx.gl x = some v → ∃ c mg mb, P.B.Ns mainGlobals mg ∧ P.B.Ns builtinsNs mb ∧ (mg x = some c ∨ (mg x = none ∧ mb x = some c)) ∧ ∀ W n, VR W n v c
  app : ∀ fr A env, Fm P cx.lvl fr A env → ∀ W σ s, Inv P fr W σ.toHp s → Loc P env W σ s.heap → ∀ f args cf cargs, VR W σ.nxt f cf → VRs W σ.nxt args cargs → (cx.app f args σ.toHp).lift σ ≠ .bad →
    Keeps P.M A cf s ∧ wpAny P.M A (call cf cargs []) (Post P fr env W σ s ((cx.app f args σ.toHp).lift σ)) NoE s
  get : ∀ fr A env, Fm P cx.lvl fr A env → ∀ W σ s, Inv P fr W σ.toHp s → Loc P env W σ s.heap → ∀ o m co vf first, VR W σ.nxt o co → cx.get o m σ.toHp = some (vf, first) → ∀ (pl : Sem Bool) (E : Value → Shared → Prop) (Q : Value × List Value → Shared → Prop),
    (∀ r s' W', Step P fr env W σ s W' σ s' → VR W' σ.nxt vf r.1 → VRs W' σ.nxt first r.2 → Q r s') → wpAny P.M A (getMethod co m pl) Q E s
  fld : ∀ fr A env, Fm P cx.lvl fr A env → ∀ W σ s, Inv P fr W σ.toHp s → Loc P env W σ s.heap → ∀ o f co, VR W σ.nxt o co → (cx.fld o f σ.toHp).st σ ≠ .bad →
    wpAny P.M A (getAttr co f true) (Post P fr env W σ s ((cx.fld o f σ.toHp).st σ)) NoE s

section
variable {P : Par} {fr : List Nat} {A : Around} {env : Env} {W : Wd} {σ : St} {s : Shared} {cx : Cx}

theorem evalArgs_any {M : Model} {E : Value → Shared → Prop} {f : Value} {trees : List (Bool × Sem Value)} {Q : Args → Shared → Prop} (hs : trees.any (·.1) = false)
    (h : wpAny M A (spliced trees) (fun vs s' => Q ⟨vs, []⟩ s') E s) : wpAny M A (evalArgs f true trees []) Q E s := by
  cases trees with
  | nil =>
    unfold evalArgs
    show wpAny M A (spliced [] >>= _) Q E s
    refine wpAny_bind (wpAny_mono h (fun vs s' h' => ?_) fun _ _ x => x)
    refine wpAny_bind (wpAny_pure ?_)
    refine wpAny_holding ?_
    exact wpAny_bind (wpAny_pure (wpAny_bind (wpAny_pure (wpAny_pure h'))))
  | cons x r =>
    obtain ⟨b, t⟩ := x
    have hb : b = false := by simp at hs; exact hs.1
    subst hb
    exact Calls.evalArgs_plain h

theorem callWith_any {M : Model} {E : Value → Shared → Prop} {pos : Pos} {f : Value} {first : List Value} {trees : List (Bool × Sem Value)} {Q : Value → Shared → Prop} (hs : trees.any (·.1) = false)
    (h : wpAny M A (spliced trees) (fun vs s₁ => Keeps M A f s₁ ∧ wpAny M A (call f (first ++ vs) []) Q E s₁) E s) : wpAny M A (callWith pos f first trees []) Q E s := by
  unfold callWith
  refine wpAny_bind (wpAny_holding (evalArgs_any hs (wpAny_mono h (fun vs s₁ h₁ => wpAny_bind (wpAny_standAt ?_)) fun _ _ x => x)))
  rw [hs, show (false || ([] : List (Option Str × Sem Value)).any (fun x => x.1.isNone)) = false from rfl]
  have tail : ∀ {t : Sem Value}, wpAny M A t Q E s₁ → wpAny M A (t >>= fun r => holding [r] point >>= fun _ => pure r) Q E s₁ :=
    fun ht => wpAny_bind (wpAny_mono ht (fun r s₂ hr => wpAny_bind (wpAny_holding (wpAny_point (wpAny_pure hr)))) fun _ _ x => x)
  refine wpAny_bind (h₁.1 _ _ fun k => ?_)
  cases k with
  | frame =>
    dsimp only
    split
    · exact tail h₁.2
    · exact tail (by unfold callMarked; exact Calls.wpAny_keep h₁.2)
  | boundFrame =>
    dsimp only
    split
    · exact tail h₁.2
    · exact tail (by unfold callMarked; exact Calls.wpAny_keep h₁.2)
  | machine => exact tail h₁.2
  | caller => exact tail (wpAny_operating h₁.2)
end
end Mine
end
noncomputable section
set_option Elab.async false
set_option linter.all false
set_option maxRecDepth 100000
namespace Mine
open PySem PySem.W PyProof.Rows

section
variable {P : Par} {fr : List Nat} {A : Around} {env : Env} {W : Wd} {σ : St} {s : Shared} {cx : Cx}

noncomputable def Claim (P : Par) (cx : Cx) (x : X) (fr : List Nat) (A : Around) (env : Env) : Ph → Prop
  | .e ex => OkE P fr A env (eval ex env) (ev cx x) ∧ OkB P fr A env (isTrue ex env (eval ex env)) (tr (ev cx x))
  | .none => OkE P fr A env (pure .none) (ev cx x)
  | .es l => ∀ pos, (backTo pos (starEach l env)).any (·.1) = false ∧ (backTo pos (starEach l env)).length = l.length ∧ OkL P fr A env (spliced (backTo pos (starEach l env))) (asArgs (ev cx x))
  | .an l => l ≠ [] ∧ ∀ pos whole, OkE P fr A env (eval (.BoolOp .And l pos) env) (ev cx x) ∧ OkB P fr A env (isTrue (.BoolOp .And l pos) env whole) (tr (ev cx x))
  | .or l => l ≠ [] ∧ ∀ pos whole, OkE P fr A env (eval (.BoolOp .Or l pos) env) (ev cx x) ∧ OkB P fr A env (isTrue (.BoolOp .Or l pos) env whole) (tr (ev cx x))
  | .cond l => l = [] ∧ ∀ σ, ev cx x σ = .ok (.bool true) σ

noncomputable def Snd (P : Par) (cx : Cx) (x : X) (sc : Scope) (ph : Ph) : Prop := ∀ fr A env, Fm P cx.lvl fr A env → ScOk sc env → Claim P cx x fr A env ph

theorem okB_of {t : Sem Value} {f : St → Rs V} {t' : Sem Bool} (h : OkE P fr A env t f) (ht : ∀ (E : Value → Shared → Prop) (Q : Bool → Shared → Prop) s, wpAny P.M A t (fun v s₁ => wpAny P.M A (truthy v) Q E s₁) E s → wpAny P.M A t' Q E s) :
    OkB P fr A env t' (tr f) := fun W σ s I L hne => by
  refine ht _ _ s (then1 h I L hne (fun e s' h => h) fun v c W' σ' s' e st hv => ?_)
  have hb : tr f σ = truRs v σ' := Rs.bind_ok e
  rw [hb] at hne ⊢
  unfold truRs at hne ⊢
  revert hne
  split <;> intro hne
  · rename_i b hb'
    exact truthy_ok st.inv hv hb' fun t => ⟨σ', W', rfl, st.trans (Step.toks st.inv st.loc t)⟩
  · exact absurd rfl hne

theorem okB_plain {ex : Expr} {f : St → Rs V} (h : OkE P fr A env (eval ex env) f) (he : ∀ whole, isTrue ex env whole = (do let v ← whole; standAt ex.pos; holding [v] (truthy v))) :
    OkB P fr A env (isTrue ex env (eval ex env)) (tr f) := okB_of h fun _ _ _ hq => isTrue_plain hq (he _)

theorem snd_const {x : X} {v : V} {ex : Expr} (hev : ∀ σ, ev cx x σ = .ok v σ) (hok : ∀ W σ s, Inv P fr W σ.toHp s → Loc P env W σ s.heap → ∀ (Q : Value → Shared → Prop) (E : Value → Shared → Prop), (∀ c t, VR W σ.nxt v c → Q c { s with toks := t }) → wpAny P.M A (eval ex env) Q E s) :
    OkE P fr A env (eval ex env) (ev cx x) := fun W σ s I L _ => hok W σ s I L _ _ fun c t hv => by rw [hev]; exact post_ok rfl (Step.toks I L t) hv

theorem good_name {x : Str} (h : goodName x = true) : (x == ("__debug__" : Str)) = false ∧ (x == ("__classdict__" : Str)) = false := by
  simp only [goodName, Bool.and_eq_true, bne, Bool.not_eq_true'] at h
  exact h

theorem snd_var {sc : Scope} {x : Str} {p : Pos} (h : (goodName x && sc.names.lookup x == some .local) = true) : Snd P cx (.var x) sc (.e (.Name x p)) := by
  intro fr A env F S
  simp only [Bool.and_eq_true, beq_iff_eq] at h
  obtain ⟨hd, hcd⟩ := good_name h.1
  have hk := S.loc x h.2
  have key : OkE P fr A env (eval (.Name x p) env) (ev cx (.var x)) := fun W σ s I L hne => by
    have hev : ev cx (.var x) σ = (match σ.loc.lookup x with | some v => .ok v σ | Option.none => .bad) := rfl
    rw [hev] at hne ⊢
    split at hne
    · rename_i v hv
      obtain ⟨m, hn, hl⟩ := L.loc
      obtain ⟨_, c, hm, hr⟩ := hl x v hv
      exact wpAny_Name (wpAny_loadName_local L.kind hk hn hm (post_ok rfl (Step.refl I L) hr)) hd
    · exact absurd rfl hne
  exact ⟨key, okB_plain key fun _ => rfl⟩

theorem snd_cv {sc : Scope} {x : Str} {p : Pos} (h : (goodName x && (sc.names.lookup x == some .cell || sc.names.lookup x == some .free)) = true) : Snd P cx (.cv x) sc (.e (.Name x p)) := by
  intro fr A env F S
  simp only [Bool.and_eq_true, Bool.or_eq_true, beq_iff_eq] at h
  obtain ⟨hd, hcd⟩ := good_name h.1
  have hk := S.cel x h.2
  have key : OkE P fr A env (eval (.Name x p) env) (ev cx (.cv x)) := fun W σ s I L hne => by
    have hev : ev cx (.cv x) σ = (match σ.cel.lookup x with
      | some k => (match σ.obj k with | some (.cell (some v)) => .ok v σ | _ => .bad)
      | Option.none => .bad) := rfl
    rw [hev] at hne ⊢
    revert hne
    split
    · rename_i k hk'
      split <;> intro hne
      · rename_i v hv
        obtain ⟨p, q⟩ := L.cel x k hk'
        obtain ⟨_, c, hc, hr⟩ := I.obj k _ hv
        cases hr with
        | cell hd' hr =>
          have hcell : s.heap.IsCell (W.ρ k) (some _) := ⟨_, hc, hd'⟩
          refine wpAny_Name ?_ hd
          rcases hk with hk | hk
          · exact wpAny_loadName_cell L.kind hk (q (.inl hk)) hcell (post_ok rfl (Step.refl I L) hr)
          · refine wpAny_loadName_free L.kind hk (q (.inr hk)) hcell (post_ok rfl (Step.refl I L) hr) hcd
      · exact absurd rfl hne
    · intro hne; exact absurd rfl hne
  exact ⟨key, okB_plain key fun _ => rfl⟩

theorem keeps_ns (I : Inv P fr W σ.toHp s) {a : Addr} {m : Str → Option Value} (h : P.B.Ns a m) : s.heap.Ns a m := h.keeps I.keep

theorem snd_glob (C : CxOk P cx) {sc : Scope} {x : Str} {p : Pos} (h : (goodName x && sc.names.lookup x == some .globalImplicit) = true) : Snd P cx (.glob x) sc (.e (.Name x p)) := by
  intro fr A env F S
  simp only [Bool.and_eq_true, beq_iff_eq] at h
  obtain ⟨hd, hcd⟩ := good_name h.1
  have hk := S.glob x h.2
  have key : OkE P fr A env (eval (.Name x p) env) (ev cx (.glob x)) := fun W σ s I L hne => by
    have hev : ev cx (.glob x) σ = (match cx.gl x with | some v => .ok v σ | Option.none => .bad) := rfl
    rw [hev] at hne ⊢
    revert hne
    split <;> intro hne
    · rename_i v hv
      obtain ⟨c, mg, mb, n1, n2, hc, hr⟩ := C.gl x v hv
      refine Calls.Name_function_global (env := env) L.kind hk ?_ hd
      rcases hc with hc | ⟨hc, hb⟩
      · exact Calls.loadGlobal_global (by rw [L.glob]; exact keeps_ns I n1) hc (post_ok rfl (Step.refl I L) (hr _ _))
      · exact Calls.loadGlobal_builtin (by rw [L.glob]; exact keeps_ns I n1) hc (by rw [L.bns]; exact keeps_ns I n2) hb (post_ok rfl (Step.refl I L) (hr _ _))
    · exact absurd rfl hne
  exact ⟨key, okB_plain key fun _ => rfl⟩

theorem snd_none {sc : Scope} {k : Nat} {p : Pos} : Snd P cx .none sc (.e (.Constant .none k p)) := fun fr A env F S =>
  have key : OkE P fr A env (eval (.Constant .none k p) env) (ev cx .none) := snd_const (v := .none) (fun _ => rfl) fun W σ s I L Q E hq => fun _ _ _ => hq .none s.toks .none
  ⟨key, okB_plain key fun _ => rfl⟩
theorem snd_none' {sc : Scope} : Snd P cx .none sc .none := fun fr A env F S W σ s I L _ => wpAny_pure (post_ok rfl (Step.refl I L) .none)
theorem snd_bool {sc : Scope} {b : Bool} {k : Nat} {p : Pos} : Snd P cx (.bool b) sc (.e (.Constant (.bool b) k p)) := fun fr A env F S =>
  have key : OkE P fr A env (eval (.Constant (.bool b) k p) env) (ev cx (.bool b)) := snd_const (v := .bool b) (fun _ => rfl) fun W σ s I L Q E hq => fun _ _ _ => hq (.bool b) s.toks (.bool b)
  ⟨key, okB_plain key fun _ => rfl⟩
theorem snd_tt {sc : Scope} : Snd P cx (.bool true) sc (.cond []) := fun fr A env F S => ⟨rfl, fun σ => rfl⟩
theorem snd_int {sc : Scope} {i : Int} {k : Nat} {p : Pos} : Snd P cx (.int i) sc (.e (.Constant (.int i) k p)) := fun fr A env F S =>
  have key : OkE P fr A env (eval (.Constant (.int i) k p) env) (ev cx (.int i)) := snd_const (v := .int i) (fun _ => rfl) fun W σ s I L Q E hq => wpAny_Constant_int (hq _ _ (.int _ _))
  ⟨key, okB_plain key fun _ => rfl⟩
theorem snd_str {sc : Scope} {x : Str} {k : Nat} {p : Pos} (h : (decide (x.length ≤ sizeLine) && PyData.strOk x) = true) : Snd P cx (.str x) sc (.e (.Constant (.str x) k p)) := fun fr A env F S => by
  simp only [Bool.and_eq_true, decide_eq_true_eq] at h
  have key : OkE P fr A env (eval (.Constant (.str x) k p) env) (ev cx (.str x)) := snd_const (v := .str x) (fun _ => rfl) fun W σ s I L Q E hq => Calls.Constant_str (hq _ _ (.str _ _ h.1 h.2))
  exact ⟨key, okB_plain key fun _ => rfl⟩

/-- two trees, then an operation of their values -/
theorem then2 {ta tb : Sem Value} {fa fb : St → Rs V} {g : Value → Value → Sem Value} {k : V → V → St → Rs V} (ha : OkE P fr A env ta fa) (hb : OkE P fr A env tb fb) (I : Inv P fr W σ.toHp s) (L : Loc P env W σ s.heap)
    (hne : ((fa σ).bind fun va σ₁ => (fb σ₁).bind fun vb σ₂ => k va vb σ₂) ≠ .bad)
    (hg : ∀ W σ s va vb ca cb, Inv P fr W σ.toHp s → Loc P env W σ s.heap → VR W σ.nxt va ca → VR W σ.nxt vb cb → k va vb σ ≠ .bad → wpAny P.M A (g ca cb) (Post P fr env W σ s (k va vb σ)) NoE s) :
    wpAny P.M A ta (fun a s₁ => wpAny P.M A tb (fun b s₂ => wpAny P.M A (g a b) (Post P fr env W σ s ((fa σ).bind fun va σ₁ => (fb σ₁).bind fun vb σ₂ => k va vb σ₂)) NoE s₂)
      NoE s₁) NoE s := by
  refine wpAny_mono (ha W σ s I L (Rs.bind_ne hne)) (fun ca s₁ ⟨va, σ₁, W₁, e₁, st₁, hva⟩ => ?_) (fun e s' h => h.elim)
  have r1 : ((fa σ).bind fun va σ₁ => (fb σ₁).bind fun vb σ₂ => k va vb σ₂) = (fb σ₁).bind fun vb σ₂ => k va vb σ₂ := Rs.bind_ok e₁
  rw [r1] at hne ⊢
  refine wpAny_mono (hb W₁ σ₁ s₁ st₁.inv st₁.loc (Rs.bind_ne hne)) (fun cb s₂ ⟨vb, σ₂, W₂, e₂, st₂, hvb⟩ => ?_) (fun e s' h => h.elim)
  have r2 : ((fb σ₁).bind fun vb σ₂ => k va vb σ₂) = k va vb σ₂ := Rs.bind_ok e₂
  rw [r2] at hne ⊢
  have st := st₁.trans st₂
  exact wpAny_mono (hg W₂ σ₂ s₂ va vb ca cb st.inv st.loc (hva.mono st₂.nx.wle st₂.nx.le) hvb hne) (fun c s' h => h.after st) fun e s' h => h.after st

theorem snd_bin {sc : Scope} {a b : X} {op : Operator} {l r : Expr} {p : Pos} (ia : Snd P cx a sc (.e l)) (ib : Snd P cx b sc (.e r)) : Snd P cx (.bin op a b) sc (.e (.BinOp l op r p)) := fun fr A env F S =>
  have key : OkE P fr A env (eval (.BinOp l op r p) env) (ev cx (.bin op a b)) := fun W σ s I L hne =>
    wpAny_BinOp (then2 (ia fr A env F S).1 (ib fr A env F S).1 I L hne fun W σ s va vb ca cb I L ha hb hne => binV_ok I L ha hb hne)
  ⟨key, okB_plain key fun _ => rfl⟩

theorem snd_neg {sc : Scope} {a : X} {x : Expr} {p : Pos} (ia : Snd P cx a sc (.e x)) : Snd P cx (.neg a) sc (.e (.UnaryOp .USub x p)) := fun fr A env F S => by
  have key : OkE P fr A env (eval (.UnaryOp .USub x p) env) (ev cx (.neg a)) := fun W σ s I L hne => by
    refine wpAny_UnaryOp (then1 (ia fr A env F S).1 I L hne (fun e s' h => h) fun v c W' σ' s' e st hv => ?_)
    have r : ev cx (.neg a) σ = (negV v).st σ' := Rs.bind_ok e
    rw [r] at hne ⊢
    exact wpAny_mono (negV_ok st.inv st.loc hv hne) (fun c s' h => h.after st) fun e s' h => h.after st
  exact ⟨key, okB_plain key fun _ => rfl⟩
end
end Mine
end
noncomputable section
set_option Elab.async false
set_option linter.all false
set_option maxRecDepth 100000
namespace Mine
open PySem PySem.W PyProof.Rows

section
variable {P : Par} {fr : List Nat} {A : Around} {env : Env} {W : Wd} {σ : St} {s : Shared} {cx : Cx}

theorem then2c {α β : Type} {ta tb : Sem Value} {fa fb : St → Rs V} {g : Value → Value → Sem α} {k : V → V → St → Rs β} {Q : α → Shared → Prop} {E : Value → Shared → Prop} (ha : OkE P fr A env ta fa) (hb : OkE P fr A env tb fb) (I : Inv P fr W σ.toHp s) (L : Loc P env W σ s.heap)
    (hne : ((fa σ).bind fun va σ₁ => (fb σ₁).bind fun vb σ₂ => k va vb σ₂) ≠ .bad)
    (hE : ∀ e s', NoE e s' → E e s')
    (hg : ∀ W₂ σ₂ s₂ va vb ca cb, ((fa σ).bind fun va σ₁ => (fb σ₁).bind fun vb σ₂ => k va vb σ₂) = k va vb σ₂ → Step P fr env W σ s W₂ σ₂ s₂ → VR W₂ σ₂.nxt va ca → VR W₂ σ₂.nxt vb cb → wpAny P.M A (g ca cb) Q E s₂) :
    wpAny P.M A ta (fun a s₁ => wpAny P.M A tb (fun b s₂ => wpAny P.M A (g a b) Q E s₂) E s₁) E s := by
  refine wpAny_mono (ha W σ s I L (Rs.bind_ne hne)) (fun ca s₁ ⟨va, σ₁, W₁, e₁, st₁, hva⟩ => ?_) (fun e s' h => hE e s' h.elim)
  have r1 : ((fa σ).bind fun va σ₁ => (fb σ₁).bind fun vb σ₂ => k va vb σ₂) = (fb σ₁).bind fun vb σ₂ => k va vb σ₂ := Rs.bind_ok e₁
  rw [r1] at hne hg
  refine wpAny_mono (hb W₁ σ₁ s₁ st₁.inv st₁.loc (Rs.bind_ne hne)) (fun cb s₂ ⟨vb, σ₂, W₂, e₂, st₂, hvb⟩ => ?_) (fun e s' h => hE e s' h.elim)
  exact hg W₂ σ₂ s₂ va vb ca cb (Rs.bind_ok e₂) (st₁.trans st₂) (hva.mono st₂.nx.wle st₂.nx.le) hvb

theorem tr_eq {f : St → Rs V} {v : V} {σ σ' : St} (e : f σ = .ok v σ') : tr f σ = truRs v σ' := Rs.bind_ok e
theorem tr_ne {f : St → Rs V} {σ : St} (e : tr f σ ≠ .bad) : f σ ≠ .bad := Rs.bind_ne e
theorem truRs_some {v : V} {σ : St} {b : Bool} (h : truV σ.toHp v = some b) : truRs v σ = .ok b σ := by unfold truRs; rw [h]
theorem truRs_ne {v : V} {σ : St} (h : truRs v σ ≠ .bad) : ∃ b, truV σ.toHp v = some b := by
  unfold truRs at h
  split at h
  · rename_i b hb; exact ⟨b, hb⟩
  · exact absurd rfl h
theorem tr_ok {f : St → Rs V} {b : Bool} {σ σ' : St} (e : tr f σ = .ok b σ') : ∃ v, f σ = .ok v σ' ∧ truV σ'.toHp v = some b := by
  cases hf : f σ with
  | ok v σ₁ =>
    rw [tr_eq hf] at e
    obtain ⟨b', hb⟩ := truRs_ne (v := v) (σ := σ₁) (by rw [e]; intro q; cases q)
    rw [truRs_some hb] at e; cases e
    exact ⟨v, rfl, hb⟩
  | bad => unfold tr at e; rw [hf] at e; cases e
/-- what asks the truth of t -/
theorem thenT {t : Sem Bool} {f : St → Rs V} {Q : Bool → Shared → Prop} {E : Value → Shared → Prop} (h : OkB P fr A env t (tr f)) (I : Inv P fr W σ.toHp s) (L : Loc P env W σ s.heap) (hne : tr f σ ≠ .bad)
    (hQ : ∀ b v σ' W' s', f σ = .ok v σ' → truV σ'.toHp v = some b → Step P fr env W σ s W' σ' s' → Q b s') : wpAny P.M A t Q E s := by
  refine wpAny_mono (h W σ s I L hne) (fun b s' ⟨σ', W', e, st⟩ => ?_) (fun ex s' h => h.elim)
  · obtain ⟨v, h1, h2⟩ := tr_ok e
    exact hQ b v σ' W' s' h1 h2 st

theorem snd_not {sc : Scope} {a : X} {x : Expr} {p : Pos} (ia : Snd P cx a sc (.e x)) : Snd P cx (.not a) sc (.e (.UnaryOp .Not x p)) := by
  intro fr A env F S
  have J := ia fr A env F S
  have hev : ∀ σ, ev cx (.not a) σ = (ev cx a σ).bind fun va σ₁ => match truV σ₁.toHp va with | some b => .ok (.bool !b) σ₁ | Option.none => .bad := fun _ => rfl
  have tne : ∀ σ, ev cx (.not a) σ ≠ .bad → tr (ev cx a) σ ≠ .bad := fun σ h => by
    rw [hev] at h
    cases hf : ev cx a σ with
    | ok v σ₁ =>
      rw [hf] at h
      rw [tr_eq hf]
      intro q; apply h
      have hn : truV σ₁.toHp v = none := by
        cases ht : truV σ₁.toHp v with
        | none => rfl
        | some b => rw [truRs_some ht] at q; cases q
      show (match truV σ₁.toHp v with | some b => Rs.ok (V.bool !b) σ₁ | Option.none => .bad) = .bad
      rw [hn]
    | bad => rw [hf] at h; exact absurd rfl h
  refine ⟨fun W σ s I L hne => ?_, fun W σ s I L hne => ?_⟩
  · refine wpAny_UnaryOp (then1 J.1 I L hne (fun e s' h => h) fun v c W' σ' s' e st hv => ?_)
    have r : ev cx (.not a) σ = (match truV σ'.toHp v with | some b => .ok (.bool !b) σ' | Option.none => .bad) := Rs.bind_ok e
    rw [r] at hne ⊢
    revert hne
    split <;> intro hne
    · rename_i b hb
      exact not_of (truthy_ok st.inv hv hb fun t => post_ok rfl (st.trans (Step.toks st.inv st.loc t)) (.bool _))
    · exact absurd rfl hne
  · refine isTrue_not (thenT J.2 I L (tne σ (tr_ne hne)) fun b v σ' W' s' e hb st => ?_)
    have r : ev cx (.not a) σ = .ok (.bool !b) σ' := by rw [hev, Rs.bind_ok e, hb]
    exact ⟨σ', W', by rw [tr_eq r]; rfl, st⟩

theorem tr_bind {g : V → St → Rs V} {r : Rs V} : (r.bind g).bind truRs = r.bind fun v σ' => (g v σ').bind truRs := by
  cases r <;> rfl

theorem snd_cmp {sc : Scope} {a b : X} {op : CmpOp} {l r : Expr} {p : Pos} (ia : Snd P cx a sc (.e l)) (ib : Snd P cx b sc (.e r)) (h3 : behindInMarks op r = false) : Snd P cx (.cmp op a b) sc (.e (.Compare l [op] [r] p)) := by
  intro fr A env F S
  have Ja := ia fr A env F S
  have Jb := ib fr A env F S
  refine ⟨fun W σ s I L hne => ?_, fun W σ s I L hne => ?_⟩
  · exact wpAny_Compare1 (then2 Ja.1 Jb.1 I L hne fun W σ s va vb ca cb I L ha hb hne => cmpV_ok F I L ha hb hne) h3
  · refine wpAny_isTrue_Compare1 ?_ h3
    have e2 : tr (ev cx (.cmp op a b)) σ = (ev cx a σ).bind fun va σ₁ => (ev cx b σ₁).bind fun vb σ₂ => ((cmpV σ₂.toHp op va vb).st σ₂).bind truRs := by
      show ((ev cx a σ).bind fun va σ₁ => (ev cx b σ₁).bind fun vb σ₂ => (cmpV σ₂.toHp op va vb).st σ₂).bind _ = _
      rw [tr_bind]
      congr 1; funext va σ₁
      rw [tr_bind]
    rw [e2] at hne ⊢
    refine then2c Ja.1 Jb.1 I L hne (fun e s' h => h) fun W₂ σ₂ s₂ va vb ca cb e st hva hvb => ?_
    rw [e] at hne ⊢
    refine wpAny_mono (cmpV_ok F st.inv st.loc hva hvb (Rs.bind_ne hne)) (fun c s' ⟨v, σ', W', e', st', hv⟩ => ?_) (fun e s' h => h.elim)
    rw [Rs.bind_ok e'] at hne ⊢
    obtain ⟨bb, hb⟩ := truRs_ne hne
    exact truthy_ok st'.inv hv hb fun t => ⟨σ', W', truRs_some hb, (st.trans st').trans (Step.toks st'.inv st'.loc t)⟩

theorem then1p {β : Type} {t : Sem Value} {f : St → Rs V} {G : Value → Shared → Prop} {k : V → St → Rs β} {E : Value → Shared → Prop}
    (ht : OkE P fr A env t f) (I : Inv P fr W σ.toHp s) (L : Loc P env W σ s.heap) (hb : (f σ).bind k ≠ .bad)
    (hE : ∀ e s', NoE e s' → E e s')
    (hg : ∀ v c W' σ' s', f σ = .ok v σ' → Step P fr env W σ s W' σ' s' → VR W' σ'.nxt v c → G c s') : wpAny P.M A t G E s :=
  wpAny_mono (ht W σ s I L (Rs.bind_ne hb)) (fun c s' ⟨v, σ', W', e, st, hv⟩ => hg v c W' σ' s' e st hv) (fun e s' h => hE e s' h.elim)

theorem then2p {β : Type} {ta tb : Sem Value} {fa fb : St → Rs V} {G : Value → Value → Shared → Prop} {k : V → V → St → Rs β} {E : Value → Shared → Prop} (ha : OkE P fr A env ta fa) (hb : OkE P fr A env tb fb) (I : Inv P fr W σ.toHp s) (L : Loc P env W σ s.heap)
    (hne : ((fa σ).bind fun va σ₁ => (fb σ₁).bind fun vb σ₂ => k va vb σ₂) ≠ .bad)
    (hE : ∀ e s', NoE e s' → E e s')
    (hg : ∀ W₂ σ₂ s₂ va vb ca cb, ((fa σ).bind fun va σ₁ => (fb σ₁).bind fun vb σ₂ => k va vb σ₂) = k va vb σ₂ → Step P fr env W σ s W₂ σ₂ s₂ → VR W₂ σ₂.nxt va ca → VR W₂ σ₂.nxt vb cb → G ca cb s₂) :
    wpAny P.M A ta (fun a s₁ => wpAny P.M A tb (fun b s₂ => G a b s₂) E s₁) E s := by
  refine wpAny_mono (ha W σ s I L (Rs.bind_ne hne)) (fun ca s₁ ⟨va, σ₁, W₁, e₁, st₁, hva⟩ => ?_) (fun e s' h => hE e s' h.elim)
  have r1 : ((fa σ).bind fun va σ₁ => (fb σ₁).bind fun vb σ₂ => k va vb σ₂) = (fb σ₁).bind fun vb σ₂ => k va vb σ₂ := Rs.bind_ok e₁
  rw [r1] at hne hg
  refine wpAny_mono (hb W₁ σ₁ s₁ st₁.inv st₁.loc (Rs.bind_ne hne)) (fun cb s₂ ⟨vb, σ₂, W₂, e₂, st₂, hvb⟩ => ?_) (fun e s' h => hE e s' h.elim)
  exact hg W₂ σ₂ s₂ va vb ca cb (Rs.bind_ok e₂) (st₁.trans st₂) (hva.mono st₂.nx.wle st₂.nx.le) hvb

theorem cond_ne {v : V} {σ : St} {t e : St → Rs V} (h : condR v σ t e ≠ .bad) : (truV σ.toHp v = some true ∧ condR v σ t e = t σ) ∨ (truV σ.toHp v = some false ∧ condR v σ t e = e σ) := by
  unfold condR at h ⊢
  revert h
  split <;> intro h
  · rename_i q; exact .inl ⟨q, rfl⟩
  · rename_i q; exact .inr ⟨q, rfl⟩
  · exact absurd rfl h

theorem snd_ite {sc : Scope} {c a b : X} {t x y : Expr} {p : Pos} (ic : Snd P cx c sc (.e t)) (ia : Snd P cx a sc (.e x)) (ib : Snd P cx b sc (.e y)) : Snd P cx (.ite c a b) sc (.e (.IfExp t x y p)) := by
  intro fr A env F S
  have Jc := ic fr A env F S
  have Ja := ia fr A env F S
  have Jb := ib fr A env F S
  have hev : ∀ σ, ev cx (.ite c a b) σ = (ev cx c σ).bind fun vc σ₁ => condR vc σ₁ (ev cx a) (ev cx b) := fun _ => rfl
  have tne : ∀ σ, ev cx (.ite c a b) σ ≠ .bad → tr (ev cx c) σ ≠ .bad := fun σ h => by
    rw [hev] at h
    cases hf : ev cx c σ with
    | ok v σ₁ =>
      rw [hf] at h
      rw [tr_eq hf]
      rcases cond_ne (h : condR v σ₁ _ _ ≠ .bad) with ⟨q, _⟩ | ⟨q, _⟩ <;> rw [truRs_some q] <;> intro q' <;> cases q'
    | bad => rw [hf] at h; exact absurd rfl h
  have cnd : ∀ {bb : Bool} {v : V} {σ' : St}, truV σ'.toHp v = some bb → condR v σ' (ev cx a) (ev cx b) = if bb then ev cx a σ' else ev cx b σ' := fun {bb v σ'} hb => by
    unfold condR; rw [hb]; cases bb <;> rfl
  refine ⟨fun W σ s I L hne => ?_, fun W σ s I L hne => ?_⟩
  · refine wpAny_IfExp (thenT Jc.2 I L (tne σ hne) fun bb v σ' W' s' e hb st => ?_)
    rw [hev, Rs.bind_ok e, cnd hb] at hne ⊢
    cases bb with
    | true =>
      simp only [if_true] at hne ⊢
      exact wpAny_mono (Ja.1 W' σ' s' st.inv st.loc hne) (fun c s' h => h.after st) fun e s' h => h.after st
    | false =>
      simp only [Bool.false_eq_true, if_false] at hne ⊢
      exact wpAny_mono (Jb.1 W' σ' s' st.inv st.loc hne) (fun c s' h => h.after st) fun e s' h => h.after st
  · refine isTrue_IfExp (thenT Jc.2 I L (tne σ (tr_ne hne)) fun bb v σ' W' s' e hb st => ?_)
    have etr : tr (ev cx (.ite c a b)) σ = (if bb then ev cx a σ' else ev cx b σ').bind truRs := by
      show (ev cx (.ite c a b) σ).bind truRs = _
      rw [hev, Rs.bind_ok e, cnd hb]
    rw [etr] at hne ⊢
    cases bb with
    | true =>
      simp only [if_true] at hne ⊢
      exact wpAny_mono (Ja.2 W' σ' s' st.inv st.loc hne) (fun c s' h => h.after st) fun e s' h => h.after st
    | false =>
      simp only [Bool.false_eq_true, if_false] at hne ⊢
      exact wpAny_mono (Jb.2 W' σ' s' st.inv st.loc hne) (fun c s' h => h.after st) fun e s' h => h.after st

theorem and_rest {b : X} {sc : Scope} {es : List Expr} (ib : Snd P cx b sc (.ofAnd es)) (F : Fm P cx.lvl fr A env) (S : ScOk sc env) :
    es ≠ [] ∧ ∀ pos whole, OkE P fr A env (eval (.BoolOp .And es pos) env) (ev cx b) ∧ OkB P fr A env (isTrue (.BoolOp .And es pos) env whole) (tr (ev cx b)) := by
  match es, ib with
  | [], ib => exact ib fr A env F S
  | [e], ib =>
    have J := ib fr A env F S
    refine ⟨by simp, fun pos whole => ⟨J.1, fun W σ s I L hne => isTrue_and (wpAny_mono (J.2 W σ s I L hne) (fun b s' h => ?_) fun _ _ x => x)⟩⟩
    cases b with
    | true => exact isTrue_and_nil h
    | false => exact h
  | e :: e' :: r, ib => exact ib fr A env F S
theorem or_rest {b : X} {sc : Scope} {es : List Expr} (ib : Snd P cx b sc (.ofOr es)) (F : Fm P cx.lvl fr A env) (S : ScOk sc env) :
    es ≠ [] ∧ ∀ pos whole, OkE P fr A env (eval (.BoolOp .Or es pos) env) (ev cx b) ∧ OkB P fr A env (isTrue (.BoolOp .Or es pos) env whole) (tr (ev cx b)) := by
  match es, ib with
  | [], ib => exact ib fr A env F S
  | [e], ib =>
    have J := ib fr A env F S
    refine ⟨by simp, fun pos whole => ⟨J.1, fun W σ s I L hne => isTrue_or (wpAny_mono (J.2 W σ s I L hne) (fun b s' h => ?_) fun _ _ x => x)⟩⟩
    cases b with
    | true => exact h
    | false => exact isTrue_or_nil h
  | e :: e' :: r, ib => exact ib fr A env F S

theorem and_core {a b : X} {sc : Scope} {e : Expr} {es : List Expr} (ia : Snd P cx a sc (.e e)) (ib : Snd P cx b sc (.ofAnd es)) (F : Fm P cx.lvl fr A env) (S : ScOk sc env) (pos : Pos) (whole : Sem Value) :
    OkE P fr A env (eval (.BoolOp .And (e :: es) pos) env) (ev cx (.and a b)) ∧ OkB P fr A env (isTrue (.BoolOp .And (e :: es) pos) env whole) (tr (ev cx (.and a b))) := by
  have Ja := ia fr A env F S
  obtain ⟨hn, Jb⟩ := and_rest ib F S
  have hev : ∀ σ, ev cx (.and a b) σ = (ev cx a σ).bind fun va σ₁ => condR va σ₁ (ev cx b) (fun σ₁ => .ok va σ₁) := fun _ => rfl
  have tne : ∀ σ, ev cx (.and a b) σ ≠ .bad → tr (ev cx a) σ ≠ .bad := fun σ h => by
    rw [hev] at h
    cases hf : ev cx a σ with
    | ok v σ₁ =>
      rw [hf] at h
      rw [tr_eq hf]
      rcases cond_ne (h : condR v σ₁ _ _ ≠ .bad) with ⟨q, _⟩ | ⟨q, _⟩ <;> rw [truRs_some q] <;> intro q' <;> cases q'
    | bad => rw [hf] at h; exact absurd rfl h
  match es, hn, Jb with
  | [], hn, _ => exact absurd rfl hn
  | e₂ :: r, _, Jb =>
    refine ⟨fun W σ s I L hne => ?_, fun W σ s I L hne => ?_⟩
    · refine BoolOp_and (then1p (k := fun va σ₁ => condR va σ₁ (ev cx b) (fun σ₁ => .ok va σ₁)) Ja.1 I L hne (fun e s' h => h) fun v c W' σ' s' e st hv => ?_)
      rw [hev, Rs.bind_ok e] at hne ⊢
      rcases cond_ne hne with ⟨q, r⟩ | ⟨q, r⟩
      · rw [r] at hne ⊢
        refine truthy_ok st.inv hv q fun t => ?_
        rw [if_pos rfl]
        have st' := st.trans (Step.toks st.inv st.loc t)
        exact wpAny_mono ((Jb pos whole).1 W' σ' _ st'.inv st'.loc hne) (fun c s' h => h.after st') fun e s' h => h.after st'
      · rw [r]
        refine truthy_ok st.inv hv q fun t => ?_
        rw [if_neg (by decide)]
        exact post_ok rfl (st.trans (Step.toks st.inv st.loc t)) hv
    · refine isTrue_and (thenT Ja.2 I L (tne σ (tr_ne hne)) fun bb v σ' W' s' e hb st => ?_)
      cases bb with
      | true =>
        have etr : tr (ev cx (.and a b)) σ = tr (ev cx b) σ' := by
          show (ev cx (.and a b) σ).bind truRs = _
          rw [hev, Rs.bind_ok e]
          unfold condR; rw [hb]; rfl
        rw [etr] at hne ⊢
        rw [if_pos rfl]
        exact wpAny_mono ((Jb pos whole).2 W' σ' s' st.inv st.loc hne) (fun c s' h => h.after st) fun e s' h => h.after st
      | false =>
        rw [if_neg (by decide)]
        refine ⟨σ', W', ?_, st⟩
        have e1 : ev cx (.and a b) σ = .ok v σ' := by rw [hev, Rs.bind_ok e]; unfold condR; rw [hb]
        rw [tr_eq e1, truRs_some hb]

theorem or_core {a b : X} {sc : Scope} {e : Expr} {es : List Expr} (ia : Snd P cx a sc (.e e)) (ib : Snd P cx b sc (.ofOr es)) (F : Fm P cx.lvl fr A env) (S : ScOk sc env) (pos : Pos) (whole : Sem Value) :
    OkE P fr A env (eval (.BoolOp .Or (e :: es) pos) env) (ev cx (.or a b)) ∧ OkB P fr A env (isTrue (.BoolOp .Or (e :: es) pos) env whole) (tr (ev cx (.or a b))) := by
  have Ja := ia fr A env F S
  obtain ⟨hn, Jb⟩ := or_rest ib F S
  have hev : ∀ σ, ev cx (.or a b) σ = (ev cx a σ).bind fun va σ₁ => condR va σ₁ (fun σ₁ => .ok va σ₁) (ev cx b) := fun _ => rfl
  have tne : ∀ σ, ev cx (.or a b) σ ≠ .bad → tr (ev cx a) σ ≠ .bad := fun σ h => by
    rw [hev] at h
    cases hf : ev cx a σ with
    | ok v σ₁ =>
      rw [hf] at h
      rw [tr_eq hf]
      rcases cond_ne (h : condR v σ₁ _ _ ≠ .bad) with ⟨q, _⟩ | ⟨q, _⟩ <;> rw [truRs_some q] <;> intro q' <;> cases q'
    | bad => rw [hf] at h; exact absurd rfl h
  match es, hn, Jb with
  | [], hn, _ => exact absurd rfl hn
  | e₂ :: r, _, Jb =>
    refine ⟨fun W σ s I L hne => ?_, fun W σ s I L hne => ?_⟩
    · refine BoolOp_or (then1p (k := fun va σ₁ => condR va σ₁ (fun σ₁ => .ok va σ₁) (ev cx b)) Ja.1 I L hne (fun e s' h => h) fun v c W' σ' s' e st hv => ?_)
      rw [hev, Rs.bind_ok e] at hne ⊢
      rcases cond_ne hne with ⟨q, r⟩ | ⟨q, r⟩
      · rw [r]
        refine truthy_ok st.inv hv q fun t => ?_
        rw [if_pos rfl]
        exact post_ok rfl (st.trans (Step.toks st.inv st.loc t)) hv
      · rw [r] at hne ⊢
        refine truthy_ok st.inv hv q fun t => ?_
        rw [if_neg (by decide)]
        have st' := st.trans (Step.toks st.inv st.loc t)
        exact wpAny_mono ((Jb pos whole).1 W' σ' _ st'.inv st'.loc hne) (fun c s' h => h.after st') fun e s' h => h.after st'
    · refine isTrue_or (thenT Ja.2 I L (tne σ (tr_ne hne)) fun bb v σ' W' s' e hb st => ?_)
      cases bb with
      | false =>
        have etr : tr (ev cx (.or a b)) σ = tr (ev cx b) σ' := by
          show (ev cx (.or a b) σ).bind truRs = _
          rw [hev, Rs.bind_ok e]
          unfold condR; rw [hb]; rfl
        rw [etr] at hne ⊢
        rw [if_neg (by decide)]
        exact wpAny_mono ((Jb pos whole).2 W' σ' s' st.inv st.loc hne) (fun c s' h => h.after st) fun e s' h => h.after st
      | true =>
        rw [if_pos rfl]
        refine ⟨σ', W', ?_, st⟩
        have e1 : ev cx (.or a b) σ = .ok v σ' := by rw [hev, Rs.bind_ok e]; unfold condR; rw [hb]
        rw [tr_eq e1, truRs_some hb]

theorem snd_and {sc : Scope} {a b : X} {e : Expr} {es : List Expr} {p : Pos} (ia : Snd P cx a sc (.e e)) (ib : Snd P cx b sc (.ofAnd es)) : Snd P cx (.and a b) sc (.e (.BoolOp .And (e :: es) p)) := fun fr A env F S => and_core ia ib F S p _
theorem snd_and' {sc : Scope} {a b : X} {e : Expr} {es : List Expr} (ia : Snd P cx a sc (.e e)) (ib : Snd P cx b sc (.ofAnd es)) : Snd P cx (.and a b) sc (.an (e :: es)) := fun fr A env F S => ⟨by simp, fun pos whole => and_core ia ib F S pos whole⟩
theorem snd_or {sc : Scope} {a b : X} {e : Expr} {es : List Expr} {p : Pos} (ia : Snd P cx a sc (.e e)) (ib : Snd P cx b sc (.ofOr es)) : Snd P cx (.or a b) sc (.e (.BoolOp .Or (e :: es) p)) := fun fr A env F S => or_core ia ib F S p _
theorem snd_or' {sc : Scope} {a b : X} {e : Expr} {es : List Expr} (ia : Snd P cx a sc (.e e)) (ib : Snd P cx b sc (.ofOr es)) : Snd P cx (.or a b) sc (.or (e :: es)) := fun fr A env F S => ⟨by simp, fun pos whole => or_core ia ib F S pos whole⟩
end
end Mine
end
noncomputable section
set_option Elab.async false
set_option linter.all false
set_option maxRecDepth 100000
namespace Mine
open PySem PySem.W PyProof.Rows

section
variable {P : Par} {fr : List Nat} {A : Around} {env : Env} {W : Wd} {σ : St} {s : Shared} {cx : Cx}

theorem snd_idx {sc : Scope} {a i : X} {v sl : Expr} {p : Pos} (ia : Snd P cx a sc (.e v)) (ii : Snd P cx i sc (.e sl)) (h3 : isSlice sl = false) : Snd P cx (.idx a i) sc (.e (.Subscript v sl p)) := fun fr A env F S =>
  have key : OkE P fr A env (eval (.Subscript v sl p) env) (ev cx (.idx a i)) := fun W σ s I L hne =>
    Subscript_ (then2 (ia fr A env F S).1 (ii fr A env F S).1 I L hne fun W σ s va vb ca cb I L ha hb hne => idxV_ok I L ha hb hne h3)
  ⟨key, okB_plain key fun _ => rfl⟩

/-- a part of a slice -/
theorem part_ok {x : X} {sc : Scope} {o : Option Expr} (ix : Snd P cx x sc (.ofO o)) (F : Fm P cx.lvl fr A env) (S : ScOk sc env) : OkE P fr A env (evalPart o env) (ev cx x) := by
  cases o with
  | none => exact ix fr A env F S
  | some e => exact (ix fr A env F S).1

theorem snd_slc {sc : Scope} {a lo hi : X} {v : Expr} {l u : Option Expr} {p p' : Pos} (ia : Snd P cx a sc (.e v)) (il : Snd P cx lo sc (.ofO l)) (ih : Snd P cx hi sc (.ofO u)) : Snd P cx (.slc a lo hi) sc (.e (.Subscript v (.Slice l u Option.none p') p)) := by
  intro fr A env F S
  have Ja := ia fr A env F S
  have Jl := part_ok il F S
  have Jh := part_ok ih F S
  have key : OkE P fr A env (eval (.Subscript v (.Slice l u Option.none p') p) env) (ev cx (.slc a lo hi)) := fun W σ s I L hne => by
    have hev : ev cx (.slc a lo hi) σ = (ev cx a σ).bind fun va σ₁ => (ev cx lo σ₁).bind fun vl σ₂ => (ev cx hi σ₂).bind fun vh σ₃ => (slcV σ₃.toHp va vl vh).st σ₃ := rfl
    rw [hev] at hne ⊢
    refine Subscript_ (then1p Ja.1 I L hne (fun e s' h => h) fun va ca W₁ σ₁ s₁ e₁ st₁ hva => ?_)
    rw [Rs.bind_ok e₁] at hne ⊢
    refine wpAny_Slice (then2p Jl Jh st₁.inv st₁.loc hne (fun e s' h => h.after st₁) fun W₃ σ₃ s₃ vl vh cl ch e₃ st₃ hvl hvh => ?_)
    rw [e₃] at hne ⊢
    have st := st₁.trans st₃
    refine wpAny_pure (wpAny_mono (slcV_ok st.inv st.loc (hva.mono st₃.nx.wle st₃.nx.le) hvl hvh hne) (fun c s' h => h.after st) fun e s' h => h.after st)
  exact ⟨key, okB_plain key fun _ => rfl⟩

theorem snd_attr (C : CxOk P cx) {sc : Scope} {o : X} {f : Str} {e : Expr} {p : Pos} (io : Snd P cx o sc (.e e)) (h2 : NoSup e) : Snd P cx (.attr o f) sc (.e (.Attribute e f p)) := by
  intro fr A env F S
  have Jo := io fr A env F S
  have key : OkE P fr A env (eval (.Attribute e f p) env) (ev cx (.attr o f)) := fun W σ s I L hne => by
    show wpAny P.M A (do
      let ov ← attributeBase e f env (eval e env)
      standAt p.atName
      let r ← holding [ov] (getAttr ov f true)
      letTemporaryGo e ov r
      pure r) _ _ s
    rw [h2]
    refine wpAny_bind (then1p (k := fun vo σ₁ => (cx.fld vo f σ₁.toHp).st σ₁) Jo.1 I L hne (fun e s' h => h) fun vo co W₁ σ₁ s₁ e₁ st₁ hvo => ?_)
    have hev : ev cx (.attr o f) σ = (cx.fld vo f σ₁.toHp).st σ₁ := Rs.bind_ok e₁
    rw [hev] at hne ⊢
    refine wpAny_bind (wpAny_standAt (wpAny_bind (wpAny_holding (wpAny_mono (C.fld fr A env F W₁ σ₁ s₁ st₁.inv st₁.loc vo f co hvo hne) (fun c s' h => ?_) fun e s' h => h.after st₁))))
    exact wpAny_bind (wpAny_letTemporaryGo (wpAny_pure (h.after st₁)))
  exact ⟨key, okB_plain key fun _ => rfl⟩

theorem starEach_cons {e : Expr} {r : List Expr} (h : ∀ x p, e ≠ .Starred x p) : starEach (e :: r) env = (false, eval e env) :: starEach r env := by
  cases e <;> first | rfl | exact absurd rfl (h _ _)
theorem not_starred {e : Expr} (h : isStar e = false) : ∀ x p, e ≠ .Starred x p := by
  rintro x p rfl
  cases h
theorem snd_nil {sc : Scope} : Snd P cx .nil sc (.es []) := fun fr A env F S pos => ⟨rfl, rfl, fun W σ s I L _ => Calls.spliced_nil ⟨_, σ, W, rfl, Step.refl I L, .nil⟩⟩
theorem snd_cons {sc : Scope} {a b : X} {e : Expr} {r : List Expr} (ia : Snd P cx a sc (.e e)) (ib : Snd P cx b sc (.es r)) (hs : isStar e = false) : Snd P cx (.cons a b) sc (.es (e :: r)) := by
  intro fr A env F S
  have Ja := ia fr A env F S
  have Jb := ib fr A env F S
  intro pos
  have hst := starEach_cons (env := env) (r := r) (not_starred hs)
  obtain ⟨q1, q2, Jb⟩ := Jb pos
  have hbt : backTo pos (starEach (e :: r) env) = (false, eval e env) :: backTo pos (starEach r env) := by rw [hst]; rfl
  rw [hbt]
  refine ⟨by simpa using q1, by simpa using q2, fun W σ s I L hne => ?_⟩
  have hev : asArgs (ev cx (.cons a b)) σ = (ev cx a σ).bind fun va σ₁ => (asArgs (ev cx b) σ₁).bind fun vs σ₂ => .ok (va :: vs) σ₂ := by
    show ((ev cx a σ).bind fun va σ₁ => (ev cx b σ₁).bind fun vs σ₂ => argR vs σ₂ fun xs σ₂ => Rs.ok (V.list (va :: xs)) σ₂).bind _ = _
    cases ev cx a σ with
    | ok va σ₁ =>
      show ((ev cx b σ₁).bind _).bind _ = ((ev cx b σ₁).bind _).bind _
      cases ev cx b σ₁ with
      | ok vs σ₂ => cases vs <;> rfl
      | bad => rfl
    | bad => rfl
  rw [hev] at hne ⊢
  refine Calls.spliced_cons (then1p Ja.1 I L hne (fun e s' h => h) fun va ca W₁ σ₁ s₁ e₁ st₁ hva => ?_)
  rw [Rs.bind_ok e₁] at hne ⊢
  refine wpAny_mono (Jb W₁ σ₁ s₁ st₁.inv st₁.loc (Rs.bind_ne hne)) (fun cs s₂ ⟨vs, σ₂, W₂, e₂, st₂, hvs⟩ => ?_) (fun e s' h => h.elim)
  rw [Rs.bind_ok e₂]
  exact ⟨_, σ₂, W₂, rfl, st₁.trans st₂, .cons (hva.mono st₂.nx.wle st₂.nx.le) hvs⟩

theorem asArgs_ok {f : St → Rs V} {xs : List V} {σ σ' : St} (h : asArgs f σ = .ok xs σ') : f σ = .ok (.list xs) σ' := by
  unfold asArgs at h
  cases hf : f σ with
  | ok v σ₁ =>
    rw [hf] at h
    have h' : argR v σ₁ (fun xs σ' => Rs.ok xs σ') = .ok xs σ' := h
    cases v <;> first | cases h' | skip
    rfl
  | bad => rw [hf] at h; cases h
theorem thenArgs {β : Type} {t : Sem (List Value)} {f : St → Rs V} {G : List Value → Shared → Prop} {k : List V → St → Rs β} {E : Value → Shared → Prop}
    (ht : OkL P fr A env t (asArgs f)) (I : Inv P fr W σ.toHp s) (L : Loc P env W σ s.heap) (hb : ((f σ).bind fun v σ' => argR v σ' k) ≠ .bad)
    (hE : ∀ e s', NoE e s' → E e s')
    (hg : ∀ xs cs W' σ' s', ((f σ).bind fun v σ' => argR v σ' k) = k xs σ' → Step P fr env W σ s W' σ' s' → VRs W' σ'.nxt xs cs → G cs s') : wpAny P.M A t G E s := by
  have hne : asArgs f σ ≠ .bad := by
    unfold asArgs
    cases hf : f σ with
    | ok v σ₁ =>
      rw [hf] at hb
      cases v <;> first | exact absurd rfl hb | (intro q; cases q)
    | bad => rw [hf] at hb; exact absurd rfl hb
  exact wpAny_mono (ht W σ s I L hne) (fun cs s' ⟨xs, σ', W', e, st, hv⟩ => hg xs cs W' σ' s' (by rw [Rs.bind_ok (asArgs_ok e)]; rfl) st hv) (fun e s' h => hE e s' h.elim)

theorem fits_ne {n : Nat} {r : Rs V} (h : fits n r ≠ .bad) : n ≤ sizeLine ∧ fits n r = r := by
  unfold fits at h ⊢
  split at h
  · rename_i q; exact ⟨q, if_pos q⟩
  · exact absurd rfl h

theorem snd_list {sc : Scope} {es : X} {l : List Expr} {p : Pos} (ie : Snd P cx es sc (.es l)) : Snd P cx (.list es) sc (.e (.List l p)) := by
  intro fr A env F S
  have Je := (ie fr A env F S) p
  have key : OkE P fr A env (eval (.List l p) env) (ev cx (.list es)) := fun W σ s I L hne => by
    refine List_ (thenArgs (k := fun xs σ₁ => fits xs.length (.ok (.list xs) σ₁)) Je.2.2 I L hne (fun e s' h => h) fun xs cs W' σ' s' e st hv => ?_)
    have hev : ev cx (.list es) σ = fits xs.length (.ok (.list xs) σ') := e
    rw [hev] at hne ⊢
    obtain ⟨hz, r⟩ := fits_ne hne
    rw [r]
    have hz' : cs.length ≤ sizeLine := by rw [hv.length]; exact hz
    exact wpAny_newObj_type (Post.after st (newList_ok (items := cs.toArray) st.inv st.loc (by simpa using hv) (by simpa using hz') rfl rfl rfl)) (by show cs.toArray.size ≤ sizeLine; rw [List.size_toArray]; exact hz')
  exact ⟨key, okB_plain key fun _ => rfl⟩

theorem snd_tup {sc : Scope} {es : X} {l : List Expr} {kd : Nat} {p : Pos} (ie : Snd P cx es sc (.es l)) : Snd P cx (.tup es) sc (.e (.Tuple l kd p)) := by
  intro fr A env F S
  have Je := (ie fr A env F S) p
  have key : OkE P fr A env (eval (.Tuple l kd p) env) (ev cx (.tup es)) := fun W σ s I L hne => by
    refine Tuple_ (thenArgs (k := fun xs σ₁ => fits xs.length (.ok (.tup xs) σ₁)) Je.2.2 I L hne (fun e s' h => h) fun xs cs W' σ' s' e st hv => ?_)
    have hev : ev cx (.tup es) σ = fits xs.length (.ok (.tup xs) σ') := e
    rw [hev] at hne ⊢
    obtain ⟨hz, r⟩ := fits_ne hne
    rw [r]
    have hz' : cs.length ≤ sizeLine := by rw [hv.length]; exact hz
    exact wpAny_newObj_type (Post.after st (newTup_ok (items := cs.toArray) st.inv st.loc (by simpa using hv) (by simpa using hz') rfl rfl rfl)) (by show cs.toArray.size ≤ sizeLine; rw [List.size_toArray]; exact hz')
  exact ⟨key, okB_plain key fun _ => rfl⟩

theorem snd_call (C : CxOk P cx) {sc : Scope} {f as : X} {n : Str} {np p : Pos} {l : List Expr} (jf : Snd P cx f sc (.e (.Name n np))) (ja : Snd P cx as sc (.es l)) : Snd P cx (.call f as) sc (.e (.Call (.Name n np) l [] p)) := by
  intro fr A env F S
  have Jf := jf fr A env F S
  have Ja := (ja fr A env F S) p
  have key : OkE P fr A env (eval (.Call (.Name n np) l [] p) env) (ev cx (.call f as)) := fun W σ s I L hne => by
    have hev : ev cx (.call f as) σ = (ev cx f σ).bind fun vf σ₁ => (ev cx as σ₁).bind fun vs σ₂ => argR vs σ₂ fun xs σ₂ => (cx.app vf xs σ₂.toHp).lift σ₂ := rfl
    rw [hev] at hne ⊢
    show wpAny P.M A (do callWith p (← eval (.Name n np) env) [] (backTo p (starEach l env)) []) _ _ s
    refine wpAny_bind (then1p Jf.1 I L hne (fun e s' h => h) fun vf cf W₁ σ₁ s₁ e₁ st₁ hvf => ?_)
    rw [Rs.bind_ok e₁] at hne ⊢
    refine callWith_any Ja.1 (thenArgs (k := fun xs σ₂ => (cx.app vf xs σ₂.toHp).lift σ₂) Ja.2.2 st₁.inv st₁.loc hne (fun e s' h => h.after st₁) fun xs cs W₂ σ₂ s₂ e₂ st₂ hvs => ?_)
    rw [e₂] at hne ⊢
    have st := st₁.trans st₂
    obtain ⟨k1, k2⟩ := C.app fr A env F W₂ σ₂ s₂ st.inv st.loc vf xs cf cs (hvf.mono st₂.nx.wle st₂.nx.le) hvs hne
    exact ⟨k1, wpAny_mono k2 (fun c s' h => h.after st) fun e s' h => h.after st⟩
  exact ⟨key, okB_plain key fun _ => rfl⟩

theorem snd_meth (C : CxOk P cx) {sc : Scope} {o as : X} {m : Str} {e : Expr} {apos p : Pos} {l : List Expr} (jo : Snd P cx o sc (.e e)) (ja : Snd P cx as sc (.es l)) (h3 : NoSup e) (h45 : (decide (l.length < 30) && apos.endLine == p.line) = true) : Snd P cx (.meth o m as) sc (.e (.Call (.Attribute e m apos) l [] p)) := by
  intro fr A env F S
  simp only [Bool.and_eq_true, decide_eq_true_eq, beq_iff_eq] at h45
  obtain ⟨h4, h5⟩ := h45
  have Jo := jo fr A env F S
  have Ja := (ja fr A env F S) p
  have key : OkE P fr A env (eval (.Call (.Attribute e m apos) l [] p) env) (ev cx (.meth o m as)) := fun W σ s I L hne => by
    have hev : ev cx (.meth o m as) σ = (ev cx o σ).bind fun vo σ₁ => match cx.get vo m σ₁.toHp with
      | some (vf, first) => (ev cx as σ₁).bind fun vs σ₂ => argR vs σ₂ fun xs σ₂ => (cx.app vf (first ++ xs) σ₂.toHp).lift σ₂
      | Option.none => .bad := rfl
    rw [hev] at hne ⊢
    have hform : methodCallForm (l.length + ([] : List Keyword).length) (backTo p (starEach l env)) (backToKw p (keywordEach [] env)) = true := by
      unfold methodCallForm
      have q : (backTo p (starEach l env)).all (fun x => !x.1) = true := by
        rw [List.all_eq_true]
        intro x hx
        have := List.any_eq_false.mp Ja.1 x hx
        simpa using this
      rw [q]
      show (true && true && decide (l.length + 0 + 0 < 30)) = true
      simpa using h4
    have hpos : methodCallPos true e env apos p = pure p := by unfold methodCallPos; simp [h5]
    show wpAny P.M A (do
      let ov ← attributeBase e m env (eval e env)
      standAt apos.atName
      methodCall e m apos p env ov (l.length + ([] : List Keyword).length) (backTo p (starEach l env)) (backToKw p (keywordEach [] env))) _ _ s
    rw [h3]
    refine wpAny_bind (then1p Jo.1 I L hne (fun e s' h => h) fun vo co W₁ σ₁ s₁ e₁ st₁ hvo => wpAny_bind (wpAny_standAt ?_))
    rw [Rs.bind_ok e₁] at hne ⊢
    revert hne
    split <;> intro hne
    · rename_i vf first hget
      unfold methodCall
      rw [hform]
      refine wpAny_bind (wpAny_holding (C.get fr A env F W₁ σ₁ s₁ st₁.inv st₁.loc vo m co vf first hvo hget _ _ _ fun r s₂ W₂ st₂ hf hfi => ?_))
      refine wpAny_bind (wpAny_of_eq hpos ?_)
      have st := st₁.trans st₂
      refine callWith_any Ja.1 (thenArgs (k := fun xs σ₂ => (cx.app vf (first ++ xs) σ₂.toHp).lift σ₂) Ja.2.2 st.inv st.loc hne (fun e s' h => h.after st) fun xs cs W₃ σ₃ s₃ e₃ st₃ hvs => ?_)
      rw [e₃] at hne ⊢
      have st' := st.trans st₃
      obtain ⟨k1, k2⟩ := C.app fr A env F W₃ σ₃ s₃ st'.inv st'.loc vf (first ++ xs) r.1 (r.2 ++ cs) (hf.mono st₃.nx.wle st₃.nx.le) ((hfi.mono st₃.nx.wle st₃.nx.le).append hvs) hne
      exact ⟨k1, wpAny_mono k2 (fun c s' h => h.after st') fun e s' h => h.after st'⟩
    · exact absurd rfl hne
  exact ⟨key, okB_plain key fun _ => rfl⟩

end
end Mine
end
noncomputable section
set_option Elab.async false
set_option linter.all false
set_option maxRecDepth 100000
namespace Mine
open PySem PySem.W PyProof.Rows

/-- an object that no name and no list of ours holds -/
structure Out (P : Par) (fr : List Nat) (W : Wd) (n : Nat) (a : Nat) : Prop where
  notB : P.B.get? a = none
  notFr : a ∉ fr
  notFz : W.fz a = none
  notOwn : ∀ k, k < n → W.ρ k ≠ a

section
variable {P : Par} {fr : List Nat} {A : Around} {env : Env} {W W' : Wd} {σ σ' : St} {s s' s'' : Shared} {cx : Cx}

theorem Out.new (I : Inv P fr W σ.toHp s) {a : Nat} (h : s.heap.get? a = none) : Out P fr W σ.nxt a where
  notB := by
    cases q : P.B.get? a with
    | none => rfl
    | some o => have := I.keep _ _ q; rw [h] at this; cases this
  notFr := fun hm => by obtain ⟨o, e, _⟩ := (I.frB _ hm).2; rw [h] at e; cases e
  notFz := by
    cases q : W.fz a with
    | none => rfl
    | some o => have := (I.frz _ _ q).1; rw [h] at this; cases this
  notOwn := fun k hk q => by obtain ⟨o, e⟩ := I.live k hk; rw [q, h] at e; cases e

theorem Out.step {frx : List Nat} {L : Nat} {n n' : Nat} {h h' : Heap} {a : Nat} {o : Obj} (x : Out P fr W n a) (e : h.get? a = some o) (nx : Nx frx L W n h W' n' h') : Out P fr W' n' a where
  notB := x.notB
  notFr := x.notFr
  notFz := by
    cases q : W'.fz a with
    | none => rfl
    | some c =>
      rcases nx.fzn a c q with r | r
      · rw [x.notFz] at r; cases r
      · rw [e] at r; cases r
  notOwn := fun k hk q => by
    by_cases hn : k < n
    · rw [nx.wle.ρ k hn] at q; exact x.notOwn k hn q
    · have := nx.new k (Nat.not_lt.mp hn) hk; rw [q, e] at this; cases this

theorem Inv.outside (I : Inv P fr W σ.toHp s) {a : Nat} (x : Out P fr W σ.nxt a) (hk : ∀ b o, b ≠ a → s.heap.get? b = some o → s'.heap.get? b = some o) (hg : s'.gens = s.gens) (ho : s'.os = s.os) : Inv P fr W σ.toHp s' where
  keep := fun b o e => hk b o (by rintro rfl; rw [x.notB] at e; cases e) (I.keep b o e)
  old := I.old
  live := fun k h => let ⟨o, e⟩ := I.live k h; ⟨o, hk _ _ (x.notOwn k h) e⟩
  nofr := I.nofr
  nofz := I.nofz
  inj := I.inj
  obj := fun k o e => let ⟨p, c, b, d⟩ := I.obj k o e; ⟨p, c, hk _ _ (x.notOwn k p) b, d⟩
  frz := fun b c e => ⟨hk _ _ (by rintro rfl; rw [x.notFz] at e; cases e) (I.frz b c e).1, (I.frz b c e).2⟩
  frB := fun b h => ⟨(I.frB b h).1, let ⟨o, e, d⟩ := (I.frB b h).2; ⟨o, hk _ _ (by rintro rfl; exact x.notFr h) e, d⟩⟩
  gens := hg.trans I.gens
  os := ho.trans I.os
  tab0 := I.tab0

/-- behind a step, an object that is new since the step's start is changed -/
theorem Step.aside (st : Step P fr env W σ s W' σ' s') (hL : env.locals ∈ fr) {a : Nat} (hn : s.heap.get? a = none) (x : Out P fr W' σ'.nxt a) (hk : ∀ b o, b ≠ a → s'.heap.get? b = some o → s''.heap.get? b = some o) (hg : s''.gens = s'.gens) (ho : s''.os = s'.os) :
    Step P fr env W σ s W' σ' s'' := by
  refine ⟨⟨st.nx.wle, st.nx.le, fun b o e => ?_, st.nx.new, st.nx.fzn, fun b o e h1 h0 h2 => ?_, fun b o h1 h2 e => ?_⟩, st.inv.outside x hk hg ho, ?_⟩
  · obtain ⟨o', e'⟩ := st.nx.live b o e
    exact ⟨o', hk b o' (by rintro rfl; rw [hn] at e; cases e) e'⟩
  · exact hk b o (by rintro rfl; rw [hn] at e; cases e) (st.nx.ext b o e h1 h0 h2)
  · obtain ⟨o', e', d'⟩ := st.nx.fext b o h1 h2 e
    exact ⟨o', hk b o' (by rintro rfl; rw [hn] at e; cases e) e', d'⟩
  · obtain ⟨m, q1, q2⟩ := st.loc.loc
    obtain ⟨oL, es, ep, e1, r⟩ := q1
    exact ⟨st.loc.kind, st.loc.glob, st.loc.bns, ⟨m, ⟨oL, es, ep, hk _ _ (by rintro rfl; exact x.notFr hL) e1, r⟩, q2⟩, st.loc.cel, st.loc.cod⟩

theorem Inv.weaken {C : Nat} (I : Inv P (C :: fr) W σ.toHp s) : Inv P fr W σ.toHp s :=
  ⟨I.keep, I.old, I.live, fun k h q => I.nofr k h (.tail _ q), I.nofz, I.inj, I.obj, fun a c e => ⟨(I.frz a c e).1, fun q => (I.frz a c e).2 (.tail _ q)⟩, fun a h => I.frB a (.tail _ h), I.gens, I.os, I.tab0⟩
theorem Inv.under (I : Inv P fr W σ.toHp s) {C : Nat} {o : Obj} (x : Out P fr W σ.nxt C) (e : s.heap.get? C = some o) (hd : ∀ vs, o.data ≠ .fields vs) : Inv P (C :: fr) W σ.toHp s where
  keep := I.keep
  old := I.old
  live := I.live
  nofr := fun k h q => by
    rcases List.mem_cons.mp q with q | q
    · exact x.notOwn k h q
    · exact I.nofr k h q
  nofz := I.nofz
  inj := I.inj
  obj := I.obj
  frz := fun a c h => ⟨(I.frz a c h).1, fun q => by
    rcases List.mem_cons.mp q with q | q
    · subst q; rw [x.notFz] at h; cases h
    · exact (I.frz a c h).2 q⟩
  frB := fun a h => by
    rcases List.mem_cons.mp h with q | q
    · subst q; exact ⟨x.notB, o, e, hd⟩
    · exact I.frB a q
  gens := I.gens
  os := I.os
  tab0 := I.tab0

/-- a step of an inner frame, made behind a step of the outer one -/
theorem Step.inner {C : Nat} {cenv : Env} {W'' : Wd} {σ₁ σ₂ : St} (st : Step P fr env W σ s W' σ' s') (hL : env.locals ∈ fr) (hn : s.heap.get? C = none) (hC : cenv.locals = C) (hLC : C ≠ env.locals) (he : σ₁.toHp = σ'.toHp)
    (r : Step P (C :: fr) cenv W' σ₁ s' W'' σ₂ s'') : Step P fr env W σ s W'' { σ' with toHp := σ₂.toHp } s'' := by
  have hnx : σ₁.nxt = σ'.nxt := congrArg Hp.nxt he
  have hz : σ'.nxt ≤ σ₂.nxt := hnx ▸ r.nx.le
  have wl : Wle σ'.nxt W' W'' := hnx ▸ r.nx.wle
  refine ⟨⟨st.nx.wle.trans st.nx.le wl, Nat.le_trans st.nx.le hz, fun b o e => ?_, fun k h1 h2 => ?_, fun a c e => ?_, fun b o e h1 h0 h2 => ?_, fun b o h1 h2 e => ?_⟩, Inv.weaken (σ := σ₂) r.inv, ?_⟩
  · obtain ⟨o', e'⟩ := st.nx.live b o e; exact r.nx.live b o' e'
  · by_cases hk : k < σ'.nxt
    · rw [wl.ρ k hk]; exact st.nx.new k h1 hk
    · cases q : s.heap.get? (W''.ρ k) with
      | none => rfl
      | some o => obtain ⟨o', e'⟩ := st.nx.live _ _ q; rw [r.nx.new k (by rw [hnx]; exact Nat.not_lt.mp hk) h2] at e'; cases e'
  · rcases r.nx.fzn a c e with q | q
    · exact st.nx.fzn a c q
    · right
      cases hq : s.heap.get? a with
      | none => rfl
      | some o => obtain ⟨o', e'⟩ := st.nx.live _ _ hq; rw [q] at e'; cases e'
  · have e1 := st.nx.ext b o e h1 h0 h2
    refine r.nx.ext b o e1 (by rw [hC]; rintro rfl; rw [hn] at e; cases e) (fun hm => by
      rcases List.mem_cons.mp hm with q | q
      · subst q; rw [hn] at e; cases e
      · exact h0 q) fun k hk q => ?_
    rw [hnx] at hk
    by_cases hkn : k < σ.nxt
    · rw [st.nx.wle.ρ k hkn] at q; exact h2 k hkn q
    · have := st.nx.new k (Nat.not_lt.mp hkn) hk; rw [q, e] at this; cases this
  · obtain ⟨o', e', d'⟩ := st.nx.fext b o h1 h2 e
    obtain ⟨o'', e'', d''⟩ := r.nx.fext b o' (.tail _ h1) (by rw [hC]; rintro rfl; rw [hn] at e; cases e) e'
    exact ⟨o'', e'', d''.trans d'⟩
  · obtain ⟨m, q1, q2⟩ := st.loc.loc
    obtain ⟨oL, es, ep, e1, dd, rr⟩ := q1
    obtain ⟨oL', e2, d2⟩ := r.nx.fext _ _ (.tail _ hL) (by rw [hC]; exact Ne.symm hLC) e1
    exact ⟨st.loc.kind, st.loc.glob, st.loc.bns, ⟨m, ⟨oL', es, ep, e2, d2.trans dd, rr⟩, fun x v h => let ⟨p, c, q, rv⟩ := q2 x v h; ⟨p, c, q, rv.mono wl hz⟩⟩,
      fun x k h => let ⟨p, q⟩ := st.loc.cel x k h; ⟨Nat.lt_of_lt_of_le p hz, fun hk => by rw [wl.ρ k p]; exact q hk⟩,
      fun k q h => let ⟨p, r⟩ := st.loc.cod k q h; ⟨Nat.lt_of_lt_of_le p hz, by rw [wl.ρ k p]; exact r⟩⟩

/-- an object made since the step's start is let stand from now on -/
theorem Step.freezeLate (st : Step P fr env W σ s W' σ' s') {a : Nat} {o : Obj} (hn : s.heap.get? a = none) (e : s'.heap.get? a = some o) (x : Out P fr W' σ'.nxt a) : Step P fr env W σ s (W'.freeze a o) σ' s' := by
  have fe : ∀ b, (W'.freeze a o).fz b = if b = a then some o else W'.fz b := fun _ => rfl
  have hfz : ∀ b c, W'.fz b = some c → (W'.freeze a o).fz b = some c := fun b c h => by
    rw [fe, if_neg]; exact h
    rintro rfl; rw [x.notFz] at h; cases h
  have wl : Wle σ'.nxt W' (W'.freeze a o) := ⟨fun _ _ => rfl, hfz⟩
  have J := st.inv
  refine ⟨⟨st.nx.wle.trans st.nx.le wl, st.nx.le, st.nx.live, st.nx.new, fun b c h => ?_, st.nx.ext, st.nx.fext⟩, ⟨J.keep, J.old, J.live, J.nofr, fun k h => ?_, J.inj, fun k o' h => ?_, fun b c h => ?_, J.frB, J.gens, J.os, J.tab0⟩, ?_⟩
  · rw [fe] at h
    by_cases hb : b = a
    · subst hb; exact .inr hn
    · rw [if_neg hb] at h; exact st.nx.fzn b c h
  · show (if W'.ρ k = a then some o else W'.fz (W'.ρ k)) = none
    rw [if_neg (x.notOwn k h)]; exact J.nofz k h
  · obtain ⟨p, c, b, d⟩ := J.obj k o' h; exact ⟨p, c, b, d.mono wl (Nat.le_refl _)⟩
  · rw [fe] at h
    by_cases hb : b = a
    · subst hb; rw [if_pos rfl] at h; cases h; exact ⟨e, x.notFr⟩
    · rw [if_neg hb] at h; exact J.frz b c h
  · have J' := st.loc
    exact ⟨J'.kind, J'.glob, J'.bns, let ⟨m, a, b⟩ := J'.loc; ⟨m, a, fun x v h => let ⟨p, c, q, r⟩ := b x v h; ⟨p, c, q, r.mono wl (Nat.le_refl _)⟩⟩, J'.cel, J'.cod⟩

/-! ## what a loop draws from -/
inductive ItAt (W : Wd) (n : Nat) (h : Heap) (I : Nat) : V → Nat → Prop
  | list {v : V} {a : Nat} {i : Nat} : VR W n v (.ref a) → (∀ x y z, v ≠ .rng x y z) → h.IsListIter I a i → ItAt W n h I v i
  | rng {a b c : Int} {i : Nat} : IsRangeIter h I (a + (i : Int) * c) (Builtin.Range.rangeSize a b c - (i : Int)) c → ItAt W n h I (.rng a b c) i
theorem ItAt.mono {n n' : Nat} {h h' : Heap} {I : Nat} {v : V} {i : Nat} (x : ItAt W n h I v i) (wl : Wle n W W') (hn : n ≤ n') (hk : ∀ o, h.get? I = some o → h'.get? I = some o) : ItAt W' n' h' I v i := by
  cases x with
  | list a b c => exact .list (a.mono wl hn) b (let ⟨o, e, r⟩ := c; ⟨o, hk _ e, r⟩)
  | rng a => exact .rng (hk _ a)
theorem ItAt.there {n : Nat} {h : Heap} {I : Nat} {v : V} {i : Nat} (x : ItAt W n h I v i) : ∃ o, h.get? I = some o := by
  cases x with
  | list a b c => obtain ⟨o, e, _⟩ := c; exact ⟨o, e⟩
  | rng a => exact ⟨_, a⟩

theorem iter_start {E : Value → Shared → Prop} (I : Inv P fr W σ.toHp s) {v : V} {c : Value} {xs : List V} (hv : VR W σ.nxt v c) (e : itsV σ.toHp v = some xs) {Q : Value → Shared → Prop}
    (hq : ∀ ob, ItAt W σ.nxt (s.heap.push ob) s.heap.objs.size v 0 → Q (.ref s.heap.objs.size) { s with heap := s.heap.push ob }) : wpAny P.M A (pyIter c) Q E s := by
  have key : asList σ.toHp v = some xs → (∀ x y z, v ≠ .rng x y z) → wpAny P.M A (pyIter c) Q E s := fun h1 h2 => by
    obtain ⟨a, items, rfl, hl, _, _⟩ := list_at I hv h1
    exact wpAny_pyIter_list hl (hq _ (.list hv h2 ⟨_, Heap.get?_push_size _ rfl, rfl, rfl⟩))
  cases hv with
  | @rng _ a b c _ _ _ hf hs =>
    refine wpAny_pyIter_range (I.frz _ _ hf).1 hs (hq _ (.rng ?_))
    have e1 : a + ((0 : Nat) : Int) * c = a := by simp
    have e2 : Builtin.Range.rangeSize a b c - ((0 : Nat) : Int) = Builtin.Range.rangeSize a b c := by simp
    rw [e1, e2]
    exact Heap.get?_push_size _ rfl
  | list => exact key e (by intro x y z q; cases q)
  | ref => exact key e (by intro x y z q; cases q)
  | _ => cases e
theorem iter_again {E : Value → Shared → Prop} {v : V} {n i Ia : Nat} (x : ItAt W n s.heap Ia v i) {Q : Value → Shared → Prop} (hq : Q (.ref Ia) s) : wpAny P.M A (pyIter (.ref Ia)) Q E s := by
  cases x with
  | list a b c => exact wpAny_pyIter_listiter c hq
  | rng a => exact wpAny_pyIter_rangeiter a hq
theorem iter_next {E : Value → Shared → Prop} (I : Inv P fr W σ.toHp s) {v : V} {xs : List V} {i Ia : Nat} {x : V} (hi : ItAt W σ.nxt s.heap Ia v i) (e : itsV σ.toHp v = some xs) (hx : xs[i]? = some x) {Q : Option Value → Shared → Prop}
    (hq : ∀ c h' t, VR W σ.nxt x c → ItAt W σ.nxt h' Ia v (i + 1) → Heap.SameBut Ia s.heap h' → Q (some c) { s with heap := h', toks := t }) : wpAny P.M A (pyNext (.ref Ia)) Q E s := by
  cases hi with
  | list a b c =>
    have h1 : asList σ.toHp v = some xs := by
      cases v <;> first | exact e | exact absurd rfl (b _ _ _)
    obtain ⟨l, items, q, hl, hr, hz⟩ := list_at I a h1
    cases q
    obtain ⟨cx, g1, g2⟩ := hr.get hx
    exact wpAny_pyNext_list_item c hl (by rw [← Array.getElem?_toList]; exact g1) fun h' hit hs => hq cx h' s.toks g2 (.list a b hit) hs
  | @rng a b c _ r =>
    cases e
    rw [List.getElem?_map] at hx
    obtain ⟨j, h1, rfl⟩ := Option.map_eq_some_iff.mp hx
    have h2 : i < (Builtin.Range.rangeSize a b c).toNat := by
      have := (List.getElem?_eq_some_iff.mp h1).1
      simpa using this
    have h3 : j = i := by
      rw [List.getElem?_range h2] at h1; cases h1; rfl
    subst h3
    refine wpAny_pyNext_range_item r (by omega) fun h' hit hs => hq _ h' _ (.int _ _) (.rng ?_) hs
    have e1 : a + ((j + 1 : Nat) : Int) * c = a + (j : Int) * c + c := by push_cast; rw [Int.add_mul, Int.one_mul, Int.add_assoc]
    have e2 : Builtin.Range.rangeSize a b c - ((j + 1 : Nat) : Int) = Builtin.Range.rangeSize a b c - (j : Int) - 1 := by push_cast; omega
    rw [e1, e2]
    exact hit
theorem iter_end {E : Value → Shared → Prop} (F : A.handled = none) (I : Inv P fr W σ.toHp s) {v : V} {xs : List V} {i Ia : Nat} (hi : ItAt W σ.nxt s.heap Ia v i) (e : itsV σ.toHp v = some xs) (hx : xs[i]? = none) {Q : Option Value → Shared → Prop}
    (hq : ∀ h', Heap.ExtBut Ia s.heap h' → Q none { s with heap := h' }) : wpAny P.M A (pyNext (.ref Ia)) Q E s := by
  cases hi with
  | list a b c =>
    have h1 : asList σ.toHp v = some xs := by
      cases v <;> first | exact e | exact absurd rfl (b _ _ _)
    obtain ⟨l, items, q, hl, hr, hz⟩ := list_at I a h1
    cases q
    refine wpAny_pyNext_list_end F c hl ?_ hq
    rw [Array.getElem?_eq_none_iff]
    have := hr.length
    rw [Array.length_toList] at this
    have := List.getElem?_eq_none_iff.mp hx
    omega
  | @rng a b c _ r =>
    cases e
    refine wpAny_pyNext_range_end F r ?_ hq
    have := List.getElem?_eq_none_iff.mp hx
    simp only [List.length_map, List.length_range] at this
    omega
end
end Mine
end
noncomputable section
set_option Elab.async false
set_option linter.all false
set_option maxRecDepth 100000
namespace Mine
open PySem PySem.W PyProof.Rows

noncomputable def clOf (env : Env) : List (Str × NameKind) → List (Str × Addr) → List (Str × Addr)
  | [], cs => cs
  | (n, k) :: r, cs => clOf env r (if k == .free then (n, (env.cells.lookup n).getD 0) :: cs else cs)

theorem closure_eq {env : Env} {scope : Scope} (h : ∀ n, (n, NameKind.free) ∈ scope.names → ∃ a, env.cells.lookup n = some a) : closureFor scope env = pure (clOf env scope.names []) := by
  have key : ∀ (l : List (Str × NameKind)) (cs : List (Str × Addr)), (∀ n, (n, NameKind.free) ∈ l → ∃ a, env.cells.lookup n = some a) →
      (forIn l cs fun (x : Str × NameKind) (cs : List (Str × Addr)) => (if x.2 == NameKind.free then do let a ← cellOf env x.1; pure (ForInStep.yield ((x.1, a) :: cs)) else pure (ForInStep.yield cs) : Sem (ForInStep (List (Str × Addr))))) = pure (clOf env l cs) := by
    intro l
    induction l with
    | nil => intro cs _; rfl
    | cons p r ih =>
      intro cs hl
      obtain ⟨n, k⟩ := p
      rw [List.forIn_cons]
      by_cases hk : (k == NameKind.free) = true
      · have hk' : k = .free := by simpa using hk
        subst hk'
        obtain ⟨a, ha⟩ := hl n (.head _)
        simp only [hk, if_true, clOf]
        have hc : cellOf env n = pure a := by unfold cellOf; rw [ha]
        rw [hc, pure_bind, pure_bind]
        rw [ha]
        exact ih _ fun m hm => hl m (.tail _ hm)
      · simp only [hk, clOf]
        exact ih _ fun m hm => hl m (.tail _ hm)
  unfold closureFor
  refine (congrArg (· >>= _) (Eq.trans ?_ (key scope.names [] h))).trans ?_
  · congr 1
  · rfl

theorem clOf_lookup {env : Env} {x : Str} {a : Addr} (ha : env.cells.lookup x = some a) : ∀ (l : List (Str × NameKind)) (cs : List (Str × Addr)), ((x, NameKind.free) ∈ l ∨ cs.lookup x = some a) → (cs.lookup x = none ∨ cs.lookup x = some a) → (clOf env l cs).lookup x = some a
  | [], cs, h, _ => h.elim (fun q => nomatch q) id
  | (n, k) :: r, cs, h, h2 => by
    unfold clOf
    by_cases hk : (k == NameKind.free) = true
    · rw [if_pos hk]
      have hk' : k = .free := by simpa using hk
      subst hk'
      by_cases hx : x = n
      · subst hx
        refine clOf_lookup ha r _ (.inr ?_) (.inr ?_) <;> simp [List.lookup, ha]
      · have hb : (x == n) = false := by simpa using hx
        refine clOf_lookup ha r _ ?_ ?_
        · rcases h with h | h
          · left
            rcases List.mem_cons.mp h with q | q
            · cases q; exact absurd rfl hx
            · exact q
          · right; simp only [List.lookup, hb]; exact h
        · simp only [List.lookup, hb]; exact h2
    · rw [if_neg hk]
      refine clOf_lookup ha r cs ?_ h2
      rcases h with h | h
      · left
        rcases List.mem_cons.mp h with q | q
        · cases q; exact absurd rfl hk
        · exact q
      · exact .inr h

theorem lookup_relabel (env : Env) (x : Str) : ∀ names : List (Str × NameKind), (names.map fun (n, k) => if (k == NameKind.free && env.scope.kind == .function && env.kindOf n == some .cell) then (n, NameKind.cell) else (n, k)).lookup x
    = (names.lookup x).map fun k => if (k == NameKind.free && env.scope.kind == .function && env.kindOf x == some .cell) then NameKind.cell else k
  | [] => rfl
  | (n, k) :: r => by
    show List.lookup x ((if (k == NameKind.free && env.scope.kind == .function && env.kindOf n == some .cell) = true then (n, NameKind.cell) else (n, k)) :: _) = _
    by_cases hx : (x == n) = true
    · have hx' : x = n := by simpa using hx
      subst hx'
      by_cases hc : (k == NameKind.free && env.scope.kind == .function && env.kindOf x == some .cell) = true
      · rw [if_pos hc]; simp only [List.lookup, hx, Option.map_some, if_pos hc]
      · rw [if_neg hc]; simp only [List.lookup, hx, Option.map_some, if_neg hc]
    · have hb : (x == n) = false := by simpa using hx
      have ih := lookup_relabel env x r
      by_cases hc : (k == NameKind.free && env.scope.kind == .function && env.kindOf n == some .cell) = true
      · rw [if_pos hc]; simp only [List.lookup, hb]; exact ih
      · rw [if_neg hc]; simp only [List.lookup, hb]; exact ih

theorem lookup_mem {β : Type} {x : Str} {b : β} : ∀ {l : List (Str × β)}, l.lookup x = some b → (x, b) ∈ l
  | (y, c) :: r, h => by
    by_cases hx : (x == y) = true
    · have hx' : x = y := by simpa using hx
      subst hx'
      simp [List.lookup] at h; subst h; exact .head _
    · have hb : (x == y) = false := by simpa using hx
      simp only [List.lookup, hb] at h
      exact .tail _ (lookup_mem h)

theorem not_set {e : Expr} {env : Env} (h : isSetE e = false) (x : Value) : foldedSetIterable e env x = pure x := by
  cases e <;> first | rfl | cases h

structure ScopeOk (x : Str) (sc cs : Scope) : Prop where
  kind : cs.kind = .function
  loc : cs.names.lookup x = some .local
  nocell : ∀ p ∈ cs.names, p.2 ≠ .cell
  locs : ∀ p ∈ cs.names, p.2 = .local → cs.names.lookup p.1 = some .local
  free : ∀ n, (n, NameKind.free) ∈ cs.names → sc.names.lookup n = some .cell ∨ sc.names.lookup n = some .free
theorem scopeOk {x : Str} {sc cs : Scope} (h : okScope x sc cs = true) : ScopeOk x sc cs := by
  unfold okScope at h
  simp only [Bool.and_eq_true, beq_iff_eq, List.all_eq_true] at h
  obtain ⟨⟨h1, h2⟩, h3⟩ := h
  refine ⟨h1, h2, fun p hp q => ?_, fun p hp q => ?_, fun n hn => ?_⟩
  · have := (h3 p hp).1.1; rw [q] at this; cases this
  · have := (h3 p hp).1.2; rw [q] at this; simpa using this
  · have := (h3 _ hn).2; simpa using this

section
variable {P : Par} {fr : List Nat} {A : Around} {env : Env} {W : Wd} {σ : St} {s : Shared} {cx : Cx}

theorem scOk_comp {x : Str} {sc cs : Scope} (S : ScOk sc env) (O : ScopeOk x sc cs) (C : Nat) : ScOk cs (compEnvC cs (clOf env cs.names []) C env) := by
  have hk : ∀ y, (compEnvC cs (clOf env cs.names []) C env).kindOf y = (cs.names.lookup y).map fun k => if (k == NameKind.free && env.scope.kind == .function && env.kindOf y == some .cell) then NameKind.cell else k := fun y => lookup_relabel env y cs.names
  refine ⟨fun y h => ?_, fun y h => ?_, fun y h => ?_, fun y h => absurd rfl (O.nocell _ (lookup_mem h)), fun y h => ?_⟩
  · rw [hk, h]; rfl
  · rw [hk, h]; rfl
  · rw [hk]
    rcases h with h | h
    · exact absurd rfl (O.nocell _ (lookup_mem h))
    · rw [h]
      simp only [Option.map_some]
      split <;> simp
  · rw [hk] at h
    have hf : cs.names.lookup y = some .free := by
      cases hl : cs.names.lookup y with
      | none => rw [hl] at h; simp at h
      | some k =>
        have hnc := O.nocell _ (lookup_mem hl)
        rw [hl] at h
        simp only [Option.map_some, Option.some.injEq] at h
        by_cases hc : (k == NameKind.free && env.scope.kind == .function && env.kindOf y == some .cell) = true
        · have : k = .free := by simp only [Bool.and_eq_true, beq_iff_eq] at hc; exact hc.1.1
          rw [this]
        · rw [if_neg hc] at h
          rcases h with h | h
          · exact absurd h hnc
          · rw [h]
    have hm := lookup_mem hf
    obtain ⟨a, ha⟩ := S.has y (S.cel y (O.free y hm))
    exact ⟨a, clOf_lookup ha _ _ (.inl hm) (.inl rfl)⟩

theorem loc_comp {x : Str} {sc cs : Scope} (S : ScOk sc env) (O : ScopeOk x sc cs) {C : Nat} {h : Heap} {m : Str → Option Value} {v : V} {c : Value} (L : Loc P env W σ h) (hn : h.Ns C m) (hm : m x = some c) (hv : VR W σ.nxt v c) :
    Loc P (compEnvC cs (clOf env cs.names []) C env) W { σ with loc := [(x, v)], tbl := none } h := by
  have hk : ∀ y, (compEnvC cs (clOf env cs.names []) C env).kindOf y = (cs.names.lookup y).map fun k => if (k == NameKind.free && env.scope.kind == .function && env.kindOf y == some .cell) then NameKind.cell else k := fun y => lookup_relabel env y cs.names
  refine ⟨O.kind, L.glob, L.bns, ⟨m, hn, fun y u hy => ?_⟩, fun y k hy => ?_, fun k q h => by cases h⟩
  · have hy' : List.lookup y [(x, v)] = some u := hy
    by_cases hx : (y == x) = true
    · have : y = x := by simpa using hx
      subst this
      simp [List.lookup] at hy'; subst hy'
      exact ⟨by rw [hk, O.loc]; rfl, c, hm, hv⟩
    · have hb : (y == x) = false := by simpa using hx
      simp [List.lookup, hb] at hy'
  · obtain ⟨p, q⟩ := L.cel y k hy
    refine ⟨p, fun hc => ?_⟩
    have hf : cs.names.lookup y = some .free := by
      rw [hk] at hc
      cases hl : cs.names.lookup y with
      | none => rw [hl] at hc; simp at hc
      | some k =>
        have hnc := O.nocell _ (lookup_mem hl)
        rw [hl] at hc
        simp only [Option.map_some, Option.some.injEq] at hc
        by_cases hb : (k == NameKind.free && env.scope.kind == .function && env.kindOf y == some .cell) = true
        · have : k = .free := by simp only [Bool.and_eq_true, beq_iff_eq] at hb; exact hb.1.1
          rw [this]
        · rw [if_neg hb] at hc
          rcases hc with hc | hc
          · exact absurd hc hnc
          · rw [hc]
    have hm := lookup_mem hf
    have ha := q (S.cel y (O.free y hm))
    exact clOf_lookup ha _ _ (.inl hm) (.inl rfl)

theorem turns_its {v : V} {all : List V} {f : V → St → Rs (Option V)} {l : List V} {σ : St} {r : List V} {σ' : St} (h : turns v all f l σ = .ok r σ') : itsV σ.toHp v = some all := by
  cases l <;> (unfold turns at h; split at h) <;> first | assumption | cases h
theorem turns_nil {v : V} {all : List V} {f : V → St → Rs (Option V)} {σ : St} {r : List V} {σ' : St} (h : turns v all f [] σ = .ok r σ') : r = [] ∧ σ' = σ := by
  unfold turns at h; split at h <;> cases h; exact ⟨rfl, rfl⟩
theorem turns_cons {v : V} {all : List V} {f : V → St → Rs (Option V)} {x : V} {l : List V} {σ : St} {r : List V} {σ' : St} (h : turns v all f (x :: l) σ = .ok r σ') :
    ∃ o σ₁ vs, f x σ = .ok o σ₁ ∧ turns v all f l σ₁ = .ok vs σ' ∧ r = o.toList ++ vs := by
  unfold turns at h
  split at h
  · split at h
    · rename_i o σ₁ hf
      cases ht : turns v all f l σ₁ with
      | ok vs σ₂ => rw [ht] at h; cases h; exact ⟨o, σ₁, vs, hf, ht, rfl⟩
      | bad => rw [ht] at h; cases h
    · cases h
  · cases h
theorem turns_ok {v : V} {all : List V} {f : V → St → Rs (Option V)} : ∀ {l : List V} {σ : St}, turns v all f l σ ≠ .bad → ∃ r σ', turns v all f l σ = .ok r σ'
  | [], σ, h => by
    unfold turns at h ⊢
    split at h
    · rename_i q; exact ⟨[], σ, by rw [if_pos q]⟩
    · exact absurd rfl h
  | x :: l, σ, h => by
    unfold turns at h ⊢
    split at h
    · rename_i q
      rw [if_pos q]
      split at h
      · rename_i o σ₁ hf
        have hn : turns v all f l σ₁ ≠ .bad := by intro q; rw [q] at h; exact absurd rfl h
        obtain ⟨r, σ', e⟩ := turns_ok hn
        exact ⟨_, σ', by rw [e]; rfl⟩
      · exact absurd rfl h
    · exact absurd rfl h

/-- the tests of a comprehension -/
theorem tests_ok {cond : X} {cs : Scope} {ifs : List Expr} {cenv : Env} {frC : List Nat} (ic : Snd P cx cond cs (.ofCond ifs)) (F : Fm P cx.lvl frC A cenv) (S : ScOk cs cenv) {b : V} {σ σ' : St} {W : Wd} {s : Shared} (I : Inv P frC W σ.toHp s) (L : Loc P cenv W σ s.heap) (e : ev cx cond σ = .ok b σ') {bb : Bool} (hb : truV σ'.toHp b = some bb)
    {Q : Bool → Shared → Prop} {E : Value → Shared → Prop} (hq : ∀ W' s', Step P frC cenv W σ s W' σ' s' → Q bb s') :
    wpAny P.M A (forIn ifs true fun c r => if r = true then do let ok ← isTrue c cenv (eval c cenv); pure (ForInStep.yield ok) else pure (ForInStep.yield r)) Q E s := by
  match ifs, ic with
  | [], ic =>
    obtain ⟨_, q⟩ := ic frC A cenv F S
    rw [q] at e; cases e
    cases hb
    exact wpAny_pure (hq W s (Step.refl I L))
  | [c], ic =>
    have J := (ic frC A cenv F S).2
    have e2 : tr (ev cx cond) σ = .ok bb σ' := by rw [tr_eq e, truRs_some hb]
    rw [List.forIn_cons]
    refine wpAny_bind ?_
    simp only [if_true]
    refine wpAny_bind (wpAny_mono (J W σ s I L (by rw [e2]; intro q; cases q)) (fun b' s' ⟨σ'', W', e3, st⟩ => ?_) (fun x s' h => h.elim))
    rw [e2] at e3; cases e3
    exact wpAny_pure (wpAny_pure (hq W' s' st))
  | _ :: _ :: _, ic => exact absurd (ic frC A cenv F S).1 (by simp)

theorem plainList_append {E : Value → Shared → Prop} {D : Nat} {ys : Array Value} {n : Nat} {x : Value} {Q : Value → Shared → Prop} (hl : s.heap.get? D = some (listOf ys n))
    (hQ : ∀ h' n', h'.get? D = some (listOf (ys.push x) n') → Heap.SameBut D s.heap h' → Q .none { s with heap := h' }) (hsz : ys.size ≤ sizeLine) :
    wpAny P.M A (call (.builtin "list.append") [.ref D, x]) Q E s := by
  have hL : s.heap.IsList D ys := ⟨_, hl, rfl, _, rfl⟩
  refine wpAny_call_entry slot_list_append hL.typeIs entry_list_append ?_ (args_list_append _ _)
  show wpAny _ _ (updateSeq D (·.push x) >>= fun _ => ret .none) _ _ s
  refine wpAny_bind (wpAny_updateSeq hl rfl (wpAny_pure ⟨.none, rfl, hQ _ _ (Heap.get?_update_self _ hl rfl) (Heap.SameBut.update ..)⟩))

noncomputable def compF (cx : Cx) (elt : X) (x : Str) (cond : X) (cel : List (Str × Nat)) (v : V) (σ : St) : Rs (Option V) :=
  (ev cx cond { σ with loc := [(x, v)], cel := cel, tbl := none }).bind fun b σ₃ => condO b σ₃ (ev cx elt)

theorem compF_ok {elt : X} {x : Str} {cond : X} {cel : List (Str × Nat)} {v : V} {σ : St} {o : Option V} {σ' : St} (h : compF cx elt x cond cel v σ = .ok o σ') :
    ∃ b σ₁, ev cx cond { σ with loc := [(x, v)], cel := cel, tbl := none } = .ok b σ₁ ∧ ((truV σ₁.toHp b = some true ∧ ∃ r, ev cx elt σ₁ = .ok r σ' ∧ o = some r) ∨ (truV σ₁.toHp b = some false ∧ o = none ∧ σ' = σ₁)) := by
  unfold compF at h
  cases he : ev cx cond { σ with loc := [(x, v)], cel := cel, tbl := none } with
  | ok b σ₁ =>
    rw [he] at h
    have h' : condO b σ₁ (ev cx elt) = .ok o σ' := h
    refine ⟨b, σ₁, rfl, ?_⟩
    unfold condO at h'
    split at h'
    · rename_i q
      cases hr : ev cx elt σ₁ with
      | ok r σ₂ => rw [hr] at h'; cases h'; exact .inl ⟨q, r, rfl, rfl⟩
      | bad => rw [hr] at h'; cases h'
    · rename_i q; cases h'; exact .inr ⟨q, rfl, rfl⟩
    · cases h'
  | bad => rw [he] at h; cases h

structure CompInv (P : Par) (fr : List Nat) (env : Env) (W₁ : Wd) (σ₁ : St) (s₁ : Shared) (vi : V) (I D C : Nat) (i : Nat) (acc : List V) (W : Wd) (σ : St) (s : Shared) : Prop where
  st : Step P fr env W₁ σ₁ s₁ W { σ₁ with toHp := σ.toHp } s
  oI : Out P fr W σ.nxt I
  oD : Out P fr W σ.nxt D
  oC : Out P fr W σ.nxt C
  it : ItAt W σ.nxt s.heap I vi i
  ac : ∃ ys n, s.heap.get? D = some (listOf ys n) ∧ VRs W σ.nxt acc ys.toList
  ns : ∃ m, s.heap.Ns C m

/-- something else is done aside -/
theorem CompInv.aside {W₁ : Wd} {σ₁ : St} {s₁ : Shared} {vi : V} {I D C j : Nat} {acc : List V} {W : Wd} {σ : St} {s : Shared} (J : CompInv P fr env W₁ σ₁ s₁ vi I D C j acc W σ s) (hL : env.locals ∈ fr) (nI : s₁.heap.get? I = none) (hID : I ≠ D) (hIC : I ≠ C) {h' : Heap} {t : Nat} {j' : Nat}
    (hs : Heap.SameBut I s.heap h') (hit : ItAt W σ.nxt h' I vi j') : CompInv P fr env W₁ σ₁ s₁ vi I D C j' acc W σ { s with heap := h', toks := t } := by
  obtain ⟨ys, nl, q1, q2⟩ := J.ac
  obtain ⟨m, hm⟩ := J.ns
  exact ⟨J.st.aside hL nI J.oI (fun b o hb e => (hs.2 b hb).trans e) rfl rfl, J.oI, J.oD, J.oC, hit, ⟨ys, nl, (hs.2 D (Ne.symm hID)).trans q1, q2⟩, m, hm.sameBut hs (Ne.symm hIC)⟩
/-- the turn's names are set -/
theorem CompInv.names {W₁ : Wd} {σ₁ : St} {s₁ : Shared} {vi : V} {I D C j : Nat} {acc : List V} {W : Wd} {σ : St} {s : Shared} (J : CompInv P fr env W₁ σ₁ s₁ vi I D C j acc W σ s) (hL : env.locals ∈ fr) (nC : s₁.heap.get? C = none) (hDC : D ≠ C) (hIC : I ≠ C) {h' : Heap} {t : Nat}
    (hs : Heap.SameBut C s.heap h') {m : Str → Option Value} (hm : h'.Ns C m) : CompInv P fr env W₁ σ₁ s₁ vi I D C j acc W σ { s with heap := h', toks := t } := by
  obtain ⟨ys, nl, q1, q2⟩ := J.ac
  exact ⟨J.st.aside hL nC J.oC (fun b o hb e => (hs.2 b hb).trans e) rfl rfl, J.oI, J.oD, J.oC, J.it.mono (.refl ..) (Nat.le_refl _) fun o e => (hs.2 I hIC).trans e, ⟨ys, nl, (hs.2 D hDC).trans q1, q2⟩, m, hm⟩
/-- something is done in the turn's frame -/
theorem CompInv.inner {W₁ : Wd} {σ₁ : St} {s₁ : Shared} {vi : V} {I D C j : Nat} {acc : List V} {W : Wd} {σ : St} {s : Shared} (J : CompInv P fr env W₁ σ₁ s₁ vi I D C j acc W σ s) (hL : env.locals ∈ fr) (nC : s₁.heap.get? C = none) (hDC : D ≠ C) (hIC : I ≠ C) {cenv : Env} (hc : cenv.locals = C)
    {l : List (Str × V)} {cl : List (Str × Nat)} {tb : Option (Nat × Str)} {W' : Wd} {σ' : St} {s' : Shared} (st : Step P (C :: fr) cenv W { σ with loc := l, cel := cl, tbl := tb } s W' σ' s') : CompInv P fr env W₁ σ₁ s₁ vi I D C j acc W' σ' s' := by
  have hLC : C ≠ env.locals := fun q => J.oC.notFr (q ▸ hL)
  obtain ⟨ys, nl, q1, q2⟩ := J.ac
  obtain ⟨oI, eI⟩ := J.it.there
  obtain ⟨m, oN, es, ep, eN, _⟩ := J.ns
  have keep : ∀ {a : Nat} {ob : Obj}, s.heap.get? a = some ob → a ≠ C → Out P fr W σ.nxt a → s'.heap.get? a = some ob := fun {a ob} e hne x => st.nx.ext a ob e (fun q => hne (q.trans hc)) (fun hm => (List.mem_cons.mp hm).elim hne x.notFr) x.notOwn
  exact ⟨Step.inner (σ' := { σ₁ with toHp := σ.toHp }) (σ₁ := { σ with loc := l, cel := cl, tbl := tb }) J.st hL nC hc hLC rfl st, J.oI.step eI st.nx, J.oD.step q1 st.nx, J.oC.step eN st.nx, J.it.mono st.nx.wle st.nx.le fun o e => keep e hIC J.oI,
    ⟨ys, nl, keep q1 hDC J.oD, q2.mono st.nx.wle st.nx.le⟩, let ⟨m, a, _⟩ := st.loc.loc; ⟨m, hc ▸ a⟩⟩

theorem comp_loop (hh : A.handled = none) {elt cond : X} {x : Str} {sc cs : Scope} {e i : Expr} {ifs : List Expr} {yp p : Pos} (ie : Snd P cx elt cs (.e e)) (ic : Snd P cx cond cs (.ofCond ifs)) (F : Fm P cx.lvl fr A env) (S : ScOk sc env) (O : ScopeOk x sc cs)
    {W₁ : Wd} {σ₁ : St} {s₁ : Shared} {vi : V} {xs : List V} {I D C : Nat} (nI : s₁.heap.get? I = none) (nD : s₁.heap.get? D = none) (nC : s₁.heap.get? C = none) (hID : I ≠ D) (hIC : I ≠ C) (hDC : D ≠ C)
    {total : List V} {σf : St} (hsz : total.length ≤ sizeLine) {R : Result → Shared → Prop}
    (hR : ∀ W s, Step P fr env W₁ σ₁ s₁ W { σ₁ with toHp := σf.toHp } s → Out P fr W σf.nxt D → Out P fr W σf.nxt C → (∃ ys n, s.heap.get? D = some (listOf ys n) ∧ VRs W σf.nxt total ys.toList) → (∃ m, s.heap.Ns C m) → R (.ok .next) s)
    {W : Wd} {σ : St} {s : Shared} {acc rest : List V} {j : Nat} (hj : j ≤ xs.length) (J : CompInv P fr env W₁ σ₁ s₁ vi I D C j acc W σ s) (ht : turns vi xs (compF cx elt x cond σ₁.cel) (xs.drop j) σ = .ok rest σf) (hacc : acc ++ rest = total) :
    codeAny P.M A (.compLoop (.ListComp e [⟨.Name x yp, i, ifs, 0⟩] cs p) 0 (.ref I) (.ref D) (compEnvC cs (clOf env cs.names []) C env)) R s := by
  have SC := scOk_comp S O C
  have FC : Fm P cx.lvl (C :: fr) A (compEnvC cs (clOf env cs.names []) C env) := ⟨.head _, F.handled, F.units, F.depth, let ⟨l, a, b⟩ := F.frames; ⟨l, a, fun e he => let ⟨p, L, q, r⟩ := b e he; ⟨p, L, q, .tail _ r⟩⟩⟩
  refine codeAny_compLoop_tests (fun n s => ∃ W σ acc rest j, n = xs.length + 1 - j ∧ j ≤ xs.length ∧ CompInv P fr env W₁ σ₁ s₁ vi I D C j acc W σ s ∧ turns vi xs (compF cx elt x cond σ₁.cel) (xs.drop j) σ = .ok rest σf ∧ acc ++ rest = total) ?_ _ ⟨W, σ, acc, rest, j, rfl, hj, J, ht, hacc⟩
  clear J ht hacc hj W σ s acc rest j
  rintro n s ⟨W, σ, acc, rest, j, rfl, hj, J, ht, hacc⟩
  have hits := turns_its ht
  cases hx : xs[j]? with
  | none =>
    rw [List.drop_of_length_le (List.getElem?_eq_none_iff.mp hx)] at ht
    obtain ⟨rfl, rfl⟩ := turns_nil ht
    refine iter_end hh (σ := σf) J.st.inv J.it hits hx fun h' hk => ?_
    obtain ⟨ys, nl, q1, q2⟩ := J.ac
    obtain ⟨m, oN, es, ep, q3, q4⟩ := J.ns
    refine hR W _ (J.st.aside F.hL nI J.oI (fun b o hb e => hk b o hb e) rfl rfl) J.oD J.oC ⟨ys, nl, hk _ _ (Ne.symm hID) q1, ?_⟩ ⟨m, oN, es, ep, hk _ _ (Ne.symm hIC) q3, q4⟩
    rw [← hacc, List.append_nil]; exact q2
  | some v =>
    obtain ⟨hlt, hv⟩ := List.getElem?_eq_some_iff.mp hx
    rw [List.drop_eq_getElem_cons hlt, hv] at ht
    obtain ⟨o, σ₂, vs, hf, ht', rfl⟩ := turns_cons ht
    obtain ⟨b, σ₃, hb, hcase⟩ := compF_ok hf
    have hn1 : xs.length + 1 - (j + 1) < xs.length + 1 - j := Nat.sub_lt_sub_left (Nat.lt_succ_of_lt hlt) (Nat.lt_succ_self j)
    refine iter_next (σ := σ) J.st.inv J.it hits hx fun c h₁ t₁ hvc hit hs₁ => ?_
    have J₁ := J.aside (t := t₁) F.hL nI hID hIC hs₁ hit
    clear J
    obtain ⟨m, hm⟩ := J₁.ns
    refine wpAny_assign_Name (wpAny_storeName_local (env := compEnvC cs (clOf env cs.names []) C env) (SC.loc x O.loc) hm (fun h₂ hn₂ hs₂ => ?_) (by show (cs.kind == .class || (cs.kind == .module && C != env.globals)) = false; rw [O.kind]; rfl))
    have hn₂' : h₂.Ns C (fun y => if y = x then some c else m y) := hn₂
    have J₂ := J₁.names (t := t₁ + 1) F.hL nC hDC hIC hs₂ hn₂'
    clear J₁ hm hn₂
    obtain ⟨oN, eN, dN⟩ : ∃ o, h₂.get? C = some o ∧ ∀ vs, o.data ≠ .fields vs := let ⟨o, _, _, e, d, _⟩ := hn₂'; ⟨o, e, fun vs q => by rw [d] at q; cases q⟩
    refine tests_ok (frC := C :: fr) ic FC SC (σ := { σ with loc := [(x, v)], cel := σ₁.cel, tbl := none }) (Inv.under (σ := σ) J₂.st.inv J₂.oC eN dN) (loc_comp (σ := { σ₁ with toHp := σ.toHp }) S O J₂.st.loc hn₂' (by simp) hvc) hb (bb := o.isSome) ?_ fun W₃ s₃ st₃ => ?_
    · rcases hcase with ⟨q, r, _, rfl⟩ | ⟨q, rfl, _⟩
      · exact q
      · exact q
    have J₃ := J₂.inner F.hL nC hDC hIC rfl st₃
    clear J₂
    rcases hcase with ⟨q, r, hr, rfl⟩ | ⟨q, rfl, rfl⟩
    · rw [if_pos (show (some r).isSome = true from rfl)]
      refine wpAny_mono ((ie (C :: fr) A _ FC SC).1 W₃ σ₃ s₃ st₃.inv st₃.loc (by rw [hr]; intro q; cases q)) (fun cr s₄ ⟨v', σ', W₄, e₄, st₄, hv₄⟩ => ?_) (fun ee s' h => h.elim)
      rw [hr] at e₄; cases e₄
      have J₄ := J₃.inner (l := σ₃.loc) (cl := σ₃.cel) (tb := σ₃.tbl) F.hL nC hDC hIC rfl st₄
      clear J₃
      obtain ⟨ys, nl, q1, q2⟩ := J₄.ac
      obtain ⟨m₄, hm₄⟩ := J₄.ns
      have hlen : ys.size ≤ sizeLine := by
        rw [← Array.length_toList, q2.length]
        refine Nat.le_trans ?_ hsz
        rw [← hacc, List.length_append]; exact Nat.le_add_right _ _
      refine plainList_append q1 (fun h₅ n₅ q5 hs₅ => ?_) hlen
      refine ⟨xs.length + 1 - (j + 1), hn1, W₄, σ₂, acc ++ [r], vs, j + 1, rfl, hlt, ⟨J₄.st.aside F.hL nD J₄.oD (fun b o hb e => (hs₅.2 b hb).trans e) rfl rfl, J₄.oI, J₄.oD, J₄.oC, J₄.it.mono (.refl ..) (Nat.le_refl _) fun o e => (hs₅.2 I hID).trans e, ⟨_, _, q5, ?_⟩, ⟨m₄, hm₄.sameBut hs₅ (Ne.symm hDC)⟩⟩, ht', by rw [List.append_assoc]; exact hacc⟩
      rw [Array.toList_push]; exact q2.append (.cons hv₄ .nil)
    · rw [if_neg (show ¬ (none : Option V).isSome = true from Bool.false_ne_true)]
      exact ⟨xs.length + 1 - (j + 1), hn1, W₃, _, acc, vs, j + 1, rfl, hlt, J₃, ht', hacc⟩

/-- a list that is made, and that nothing else holds -/
structure Raw (P : Par) (fr : List Nat) (env : Env) (W : Wd) (σ : St) (s : Shared) (xs : List V) (σ' : St) (a : Nat) (W' : Wd) (s' : Shared) : Prop where
  st : Step P fr env W σ s W' σ' s'
  new : s.heap.get? a = none
  out : Out P fr W' σ'.nxt a
  at_ : ∃ ys n, s'.heap.get? a = some (listOf ys n) ∧ VRs W' σ'.nxt xs ys.toList
  sz : xs.length ≤ sizeLine

theorem Raw.frozen {xs : List V} {σ' : St} {a : Nat} {W' : Wd} {s' : Shared} (R : Raw P fr env W σ s xs σ' a W' s') : Post P fr env W σ s (.ok (.list xs) σ') (.ref a) s' := by
  obtain ⟨ys, n, q1, q2⟩ := R.at_
  have st3 := R.st.freezeLate R.new q1 R.out
  have hlen : ys.size ≤ sizeLine := by
    have := q2.length
    rw [Array.length_toList] at this
    have := R.sz
    omega
  have wl : Wle σ'.nxt W' (W'.freeze a (listOf ys n)) := ⟨fun _ _ => rfl, fun b c e => by
    show (if b = a then _ else _) = _
    rw [if_neg]; exact e
    rintro rfl; rw [R.out.notFz] at e; cases e⟩
  refine ⟨_, _, _, rfl, st3, .list (o := listOf ys n) (items := ys) (e := n) ?_ rfl rfl hlen (q2.mono wl (Nat.le_refl _)) rfl⟩
  show (if a = a then _ else _) = _
  rw [if_pos rfl]

/-- behind a comprehension's loop: the list at a, the turns' names at C -/
structure CompEnd (P : Par) (fr : List Nat) (env : Env) (W : Wd) (σ : St) (s : Shared) (xs : List V) (σ' : St) (a C : Nat) (W' : Wd) (s' : Shared) : Prop where
  raw : Raw P fr env W σ s xs σ' a W' s'
  newC : s.heap.get? C = none
  outC : Out P fr W' σ'.nxt C
  ne : a ≠ C
  ns : ∃ m, s'.heap.Ns C m

theorem CompEnd.go {xs : List V} {σ' : St} {a C : Nat} {W' : Wd} {s' : Shared} (R : CompEnd P fr env W σ s xs σ' a C W' s') (F : Fm P cx.lvl fr A env) {h' : Heap} (hs : Heap.SameBut C s'.heap h') : Raw P fr env W σ s xs σ' a W' { s' with heap := h' } := by
  obtain ⟨ys, n, q1, q2⟩ := R.raw.at_
  exact ⟨R.raw.st.aside F.hL R.newC R.outC (fun b o hb e => (hs.2 b hb).trans e) rfl rfl, R.raw.new, R.raw.out, ⟨ys, n, (hs.2 _ R.ne).trans q1, q2⟩, R.raw.sz⟩

theorem comp_core {elt it cond : X} {x : Str} {sc cs : Scope} {e i : Expr} {ifs : List Expr} {yp p : Pos} (ie : Snd P cx elt cs (.e e)) (ii : Snd P cx it sc (.e i)) (ic : Snd P cx cond cs (.ofCond ifs)) (F : Fm P cx.lvl fr A env) (S : ScOk sc env) (O : ScopeOk x sc cs)
    (h1 : isSetE i = false) (I : Inv P fr W σ.toHp s) (L : Loc P env W σ s.heap) (hne : ev cx (.comp elt x it cond) σ ≠ .bad)
    {use : Option (Value → Sem Unit)} {Q : Value → Shared → Prop} {E : Value → Shared → Prop} (hE : ∀ e s', NoE e s' → E e s')
    (hfin : ∀ xs σ' a C W' s', ev cx (.comp elt x it cond) σ = .ok (.list xs) σ' → CompEnd P fr env W σ s xs σ' a C W' s' → compPost P.M A E use Q (.ref a) C (.ok .next) s') {cpos : Pos} :
    wpAny P.M A (comprehension (.ListComp e [⟨.Name x yp, i, ifs, 0⟩] cs p) cs env cpos (newList []) false (eval i env) use) Q E s := by
  have Ji := ii fr A env F S
  have hclos : closureFor cs env = pure (clOf env cs.names []) := closure_eq fun n hn => S.has n (S.cel n (O.free n hn))
  have hh : A.handled = none := F.handled
  have hev : ev cx (.comp elt x it cond) σ = (ev cx it σ).bind fun vi σ₁ => match itsV σ₁.toHp vi with
    | some xs => (turns vi xs (compF cx elt x cond σ₁.cel) xs σ₁).bind fun vs σ₂ => fits vs.length (.ok (.list vs) { σ₁ with toHp := σ₂.toHp })
    | Option.none => .bad := rfl
  rw [hev] at hne hfin
  refine wpAny_comprehension_free rfl (not_set h1) hclos O.kind O.locs (then1p Ji.1 I L hne hE fun vi ci W₁ σ₁ s₁ e₁ st₁ hvi => ?_)
  rw [Rs.bind_ok e₁] at hne hfin
  cases hxs : itsV σ₁.toHp vi with
  | none => rw [hxs] at hne; exact absurd rfl hne
  | some xs =>
    rw [hxs] at hne hfin
    dsimp only at hne hfin
    obtain ⟨vs, σf, ht⟩ := turns_ok (Rs.bind_ne hne)
    rw [Rs.bind_ok ht] at hne hfin
    obtain ⟨hz, hfit⟩ := fits_ne hne
    rw [hfit] at hfin
    refine iter_start st₁.inv hvi hxs fun ob hit => ?_
    refine wpAny_newObj_type (wpAny_newFunctionEnv O.nocell (by intro y hy; simp at hy) (fun h₁ hns₁ hsb₁ => ?_) O.kind)
    dsimp only at hns₁ hsb₁ ⊢
    generalize hH1 : s₁.heap.push ob = H1 at hns₁ hsb₁ hit ⊢
    have z1 : H1.objs.size = s₁.heap.objs.size + 1 := by rw [← hH1, Heap.size_push]
    generalize hH2 : H1.push { cls := .type "list", dict := none, data := .seq ([] : List Value).toArray } = H2 at hns₁ hsb₁ ⊢
    have z2 : H2.objs.size = s₁.heap.objs.size + 2 := by rw [← hH2, Heap.size_push, z1]
    have nI : s₁.heap.get? s₁.heap.objs.size = none := size_new _
    have nD : s₁.heap.get? H1.objs.size = none := Heap.get?_none_of_le (by rw [z1]; exact Nat.le_succ _)
    have nC : s₁.heap.get? H2.objs.size = none := Heap.get?_none_of_le (by rw [z2]; exact Nat.le_add_right _ _)
    have up : ∀ {a : Nat}, s₁.heap.get? a = none → s.heap.get? a = none := fun {a} h => by
      cases q : s.heap.get? a with
      | none => rfl
      | some o => obtain ⟨o', e'⟩ := st₁.nx.live _ _ q; rw [h] at e'; cases e'
    have hID : s₁.heap.objs.size ≠ H1.objs.size := by rw [z1]; omega
    have hIC : s₁.heap.objs.size ≠ H2.objs.size := by rw [z2]; omega
    have hDC : H1.objs.size ≠ H2.objs.size := by rw [z1, z2]; omega
    have old : ∀ b o, s₁.heap.get? b = some o → h₁.get? b = some o := fun b o e => by
      have hb : b ≠ H2.objs.size := by rintro rfl; rw [nC] at e; cases e
      exact hsb₁.extBut b o hb (Heap.get?_push_of_some _ (hH2 ▸ Heap.get?_push_of_some _ (hH1 ▸ Heap.get?_push_of_some _ e)))
    have eD : h₁.get? H1.objs.size = some (listOf #[] 0) := hsb₁.extBut _ _ hDC (Heap.get?_push_of_some _ (hH2 ▸ Heap.get?_push_size _ rfl))
    have eI : ∀ o, H1.get? s₁.heap.objs.size = some o → h₁.get? s₁.heap.objs.size = some o := fun o e => hsb₁.extBut _ _ hIC (Heap.get?_push_of_some _ (hH2 ▸ Heap.get?_push_of_some _ e))
    have st₂ : Step P fr env W₁ σ₁ s₁ W₁ σ₁ { s₁ with heap := h₁ } := Step.grow st₁.inv st₁.loc old rfl rfl
    have hit₂ : ItAt W₁ σ₁.nxt h₁ s₁.heap.objs.size vi 0 := hit.mono (.refl ..) (Nat.le_refl _) eI
    have J : CompInv P fr env W₁ σ₁ s₁ vi s₁.heap.objs.size H1.objs.size H2.objs.size 0 [] W₁ σ₁ { s₁ with heap := h₁ } :=
      ⟨st₂, Out.new st₁.inv nI, Out.new st₁.inv nD, Out.new st₁.inv nC, hit₂, ⟨#[], 0, eD, .nil⟩, ⟨_, hns₁⟩⟩
    have loop := comp_loop hh (e := e) (i := i) (yp := yp) (p := p) ie ic F S O nI nD nC hID hIC hDC (total := vs) (σf := σf) hz (acc := []) (rest := vs) (j := 0)
      (R := compPost P.M A E use Q (.ref H1.objs.size) H2.objs.size) ?_ (Nat.zero_le _) J (by simpa using ht) rfl
    · exact codeAny_compStart_list loop (iter_again (v := vi) (n := σ₁.nxt) (W := W₁) (i := 0) hit₂ loop)
    · intro W' s' st' oD oC hac hm
      exact hfin vs _ H1.objs.size H2.objs.size W' s' rfl ⟨⟨st₁.trans st', up nD, oD, hac, hz⟩, up nC, oC, hDC, hm⟩

theorem snd_comp {sc cs : Scope} {elt it cond : X} {x : Str} {e i : Expr} {ifs : List Expr} {yp p : Pos} (ii : Snd P cx it sc (.e i)) (ie : Snd P cx elt cs (.e e)) (ic : Snd P cx cond cs (.ofCond ifs)) (h4 : okScope x sc cs = true) (h1 : isSetE i = false) :
    Snd P cx (.comp elt x it cond) sc (.e (.ListComp e [⟨.Name x yp, i, ifs, 0⟩] cs p)) := by
  intro fr A env F S
  have key : OkE P fr A env (eval (.ListComp e [⟨.Name x yp, i, ifs, 0⟩] cs p) env) (ev cx (.comp elt x it cond)) := fun W σ s I L hne => by
    rw [eval_ListComp]
    refine comp_core ie ii ic F S (scopeOk h4) h1 I L hne (fun _ _ h => h) fun xs σ' a C W' s' e R => ?_
    obtain ⟨m, hm⟩ := R.ns
    exact ⟨m, hm, fun h' hs => by rw [e]; exact (R.go F hs).frozen⟩
  exact ⟨key, okB_plain key fun _ => rfl⟩

end
end Mine
end
noncomputable section
set_option Elab.async false
set_option linter.all false
set_option maxRecDepth 100000
namespace Mine
open PySem PySem.W PyProof.Rows

section
variable {P : Par} {fr : List Nat} {A : Around} {env : Env} {W : Wd} {σ : St} {s : Shared} {cx : Cx}

theorem snd_named {sc : Scope} {x : Str} {e : X} {v : Expr} {q p : Pos} (hx : sc.names.lookup x = some .local) (ie : Snd P cx e sc (.e v)) : Snd P cx (.named x e) sc (.e (.NamedExpr (.Name x q) v p)) := by
  intro fr A env F S
  have hk := S.loc x hx
  have key : OkE P fr A env (eval (.NamedExpr (.Name x q) v p) env) (ev cx (.named x e)) := fun W σ s I L hne => by
    have hev : ev cx (.named x e) σ = (ev cx e σ).bind fun v σ₁ => .ok v (σ₁.set x v) := rfl
    rw [hev] at hne ⊢
    show wpAny P.M A (do let v ← eval v env; holding [v] (assign (.Name x q) env v); pure v) _ _ s
    refine wpAny_bind (then1p (ie fr A env F S).1 I L hne (fun e s' h => h) fun v c W₁ σ₁ s₁ e₁ st₁ hv => ?_)
    rw [Rs.bind_ok e₁]
    obtain ⟨m, hn, _⟩ := st₁.loc.loc
    refine wpAny_bind (wpAny_holding (wpAny_assign_Name (wpAny_storeName_local hk hn (fun h' hn' hs' => ?_) (by rw [st₁.loc.kind]; rfl))))
    have st₂ := Step.set (s' := { s₁ with heap := h', toks := s₁.toks + 1 }) st₁.inv st₁.loc F.hL hv hk hn hn' hs' rfl rfl
    exact wpAny_pure ⟨v, σ₁.set x v, W₁, rfl, st₁.trans st₂, hv⟩
  exact ⟨key, okB_plain key fun _ => rfl⟩

end
end Mine
end
noncomputable section
set_option Elab.async false
set_option linter.all false
set_option maxRecDepth 100000
namespace Mine
open PySem PySem.W PyProof.Rows
theorem among_snoc {pos pos' : Pos} {c cv : Value} (l : List Value) (h : TriplesOk l) (e : codeAmong pos' (l ++ [rawInt pos.line, rawInt pos.col, c]) = some cv) : codeAmong pos' l = some cv ∨ cv = c := by
  fun_induction TriplesOk l with
  | case1 =>
    simp only [List.nil_append, rawInt, codeAmong] at e
    split at e
    · cases e; exact .inr rfl
    · cases e
  | case2 a' t b' u x rest ih =>
    simp only [List.cons_append, codeAmong] at e ⊢
    split at e
    · rename_i h'; rw [if_pos h']; exact .inl e
    · rename_i h'; rw [if_neg h']; exact ih h e
  | case3 l h1 h2 => exact h.elim

structure LamScope (ps : List Str) (sc ls : Scope) : Prop where
  shape : lamShape ps ls = true
  dis : distinct ps = true
  free : ∀ n, (n, NameKind.free) ∈ ls.names → sc.names.lookup n = some .cell ∨ sc.names.lookup n = some .free
theorem lamScope_ok {ps : List Str} {sc ls : Scope} (h : lamScope ps sc ls = true) : LamScope ps sc ls := by
  unfold lamScope at h
  rw [Bool.and_eq_true] at h
  refine ⟨h.1, ?_, fun n hn => ?_⟩
  · have := h.1; unfold lamShape at this; simp only [Bool.and_eq_true] at this; exact this.1.1.2
  · have := List.all_eq_true.mp h.2 _ hn; simpa using this

section
variable {P : Par} {fr : List Nat} {A : Around} {env : Env} {W : Wd} {σ : St} {s : Shared} {cx : Cx}

/-- a new object that is no frame, none of ours, and not old -/
theorem Inv.out (I : Inv P fr W σ.toHp s) {a : Nat} (hn : s.heap.get? a = none) : Out P fr W σ.nxt a where
  notB := by
    cases hq : P.B.get? a with
    | none => rfl
    | some o => have := I.keep _ _ hq; rw [hn] at this; cases this
  notFr := fun hm => by obtain ⟨o', e', _⟩ := (I.frB _ hm).2; rw [hn] at e'; cases e'
  notFz := by
    cases hq : W.fz a with
    | none => rfl
    | some o => have := (I.frz _ _ hq).1; rw [hn] at this; cases this
  notOwn := fun k hk q => by obtain ⟨o', e'⟩ := I.live k hk; rw [q, hn] at e'; cases e'

theorem put_same {k : Nat} {o : O} (h : σ.obj k = some o) : σ.put k o = σ := by
  have e : (fun j => if j = k then some o else σ.obj j) = σ.obj := funext fun j => by
    by_cases hj : j = k
    · subst hj; rw [if_pos rfl, h]
    · rw [if_neg hj]
  show { σ with obj := fun j => if j = k then some o else σ.obj j } = σ
  rw [e]
/-- an owned object is changed, and a new one let stand -/
theorem Step.putFz (I : Inv P fr W σ.toHp s) (L : Loc P env W σ s.heap) {k : Nat} (hk : k < σ.nxt) (hL : env.locals ∈ fr) (o : O) {c : Obj} {a : Nat} {oa : Obj} (hr : OR (W.freeze a oa) σ.nxt o c) {s' : Shared} (hna : s.heap.get? a = none) (hs : ∀ b o, b ≠ W.ρ k → s.heap.get? b = some o → s'.heap.get? b = some o) (hc : s'.heap.get? (W.ρ k) = some c) (ha : s'.heap.get? a = some oa) (hg : s'.gens = s.gens) (ho : s'.os = s.os) :
    Step P fr env W σ s (W.freeze a oa) (σ.put k o) s' := by
  have X := I.out hna
  have fe : ∀ b, (W.freeze a oa).fz b = if b = a then some oa else W.fz b := fun _ => rfl
  have hfz : ∀ b c, W.fz b = some c → (W.freeze a oa).fz b = some c := fun b c h => by
    rw [fe, if_neg]; exact h
    rintro rfl; rw [X.notFz] at h; cases h
  have wl : Wle σ.nxt W (W.freeze a oa) := ⟨fun _ _ => rfl, hfz⟩
  have lv : ∀ a o, s.heap.get? a = some o → ∃ o', s'.heap.get? a = some o' := fun a o e => by
    by_cases ha : a = W.ρ k
    · subst ha; exact ⟨_, hc⟩
    · exact ⟨o, hs a o ha e⟩
  refine ⟨⟨wl, Nat.le_refl _, lv, fun _ a b => absurd b (Nat.not_lt.mpr a), fun b c' e => ?_, fun a o' e _ _ h => hs a o' (Ne.symm (h k hk)) e, fun a o' h1 _ e => ⟨o', hs a o' (fun q => I.nofr k hk (q ▸ h1)) e, rfl⟩⟩, ⟨fun b o' e => ?_, I.old, fun j h => let ⟨o, e⟩ := I.live j h; lv _ _ e, I.nofr, fun j h => ?_, I.inj, fun j o' h => ?_, fun b c' h => ?_, fun a h => ⟨(I.frB a h).1, let ⟨o, e, d⟩ := (I.frB a h).2; ⟨o, hs a o (fun q => I.nofr k hk (q ▸ h)) e, d⟩⟩, hg.trans I.gens, ho.trans I.os, I.tab0⟩, ?_⟩
  · rw [fe] at e
    by_cases hb : b = a
    · subst hb; exact .inr hna
    · rw [if_neg hb] at e; exact .inl e
  · refine hs b o' ?_ (I.keep b o' e)
    rintro rfl; rw [I.old k hk] at e; cases e
  · show (W.freeze a oa).fz (W.ρ j) = none
    rw [fe, if_neg (X.notOwn j h)]; exact I.nofz j h
  · have h' : (if j = k then some o else σ.obj j) = some o' := h
    by_cases hj : j = k
    · subst hj; rw [if_pos rfl] at h'; cases h'; exact ⟨hk, c, hc, hr⟩
    · rw [if_neg hj] at h'
      obtain ⟨a, c', b, d⟩ := I.obj j o' h'
      exact ⟨a, c', hs _ _ (fun q => hj (I.inj j k a hk q)) b, d.mono wl (Nat.le_refl _)⟩
  · rw [fe] at h
    by_cases hb : b = a
    · subst hb; rw [if_pos rfl] at h; cases h; exact ⟨ha, X.notFr⟩
    · rw [if_neg hb] at h
      refine ⟨hs b c' ?_ (I.frz b c' h).1, (I.frz b c' h).2⟩
      rintro rfl; rw [I.nofz k hk] at h; cases h
  · obtain ⟨m, q, b⟩ := L.loc
    exact ⟨L.kind, L.glob, L.bns, ⟨m, q.extBut (fun b o hb e => hs b o hb e) fun q => I.nofr k hk (q ▸ hL), fun x v h => let ⟨p, c, q, r⟩ := b x v h; ⟨p, c, q, r.mono wl (Nat.le_refl _)⟩⟩, L.cel, L.cod⟩

theorem snd_lam (C : CxOk P cx) {sc ls : Scope} {ps : List Str} {b : X} {a : Arguments} {body : Expr} {p : Pos} (ha : One a ps) (hb : Ok b ls (.e body)) (hs : lamScope ps sc ls = true) : Snd P cx (.lam ps b) sc (.e (.Lambda a body ls p)) := by
  have O := lamScope_ok hs
  intro fr A env F S
  have key : OkE P fr A env (eval (.Lambda a body ls p) env) (ev cx (.lam ps b)) := fun W σ s I L hne => by
    have hev : ev cx (.lam ps b) σ = lamR σ (.clo ps b σ.cel) := rfl
    rw [hev] at hne ⊢
    revert hne
    unfold lamR
    split
    case h_2 => exact fun hne => absurd rfl hne
    rename_i k q htb
    split
    case h_2 => exact fun hne => absurd rfl hne
    rename_i q' hobj
    split
    case isFalse => exact fun hne => absurd rfl hne
    rename_i hqq
    subst hqq
    intro hne
    obtain ⟨hk, hq, c, hc, hd⟩ := L.cod k q' htb
    obtain ⟨_, oc, hget, hor⟩ := I.obj k _ hobj
    cases hor with
    | tab hT =>
    rename_i pl
    obtain ⟨mg, bm, ob, hmg, hbm, hne0, hbo, hcls, hdict, hdata⟩ := C.lam
    have hMg := keeps_ns I hmg
    have hold := I.old k hk
    have hgP : mainGlobals ≠ W.ρ k := fun q => by
      obtain ⟨o, es, ep, e, _⟩ := hmg
      rw [q, hold] at e; cases e
    have hbP : bm ≠ W.ρ k := fun q => by rw [q, hold] at hbo; cases hbo
    have hbG : bm ≠ mainGlobals := fun q => by
      obtain ⟨o, es, ep, e, hd', _⟩ := hmg
      rw [q, e] at hbo; cases hbo; rw [hd'] at hdata; cases hdata
    have hB : s.heap.BuiltinsAt mg (W.ρ k) := ⟨bm, ob, hbm, hne0, hbG, hbP, I.keep _ _ hbo, hcls, hdict, hdata⟩
    have hcl := closure_eq (env := env) (scope := ls) fun n hn => S.has n (S.cel n (O.free n hn))
    have hcel : ∀ y j, σ.cel.lookup y = some j → j < σ.nxt ∧ (ls.names.lookup y = some .free → (clOf env ls.names []).lookup y = some (W.ρ j)) := fun y j hj => by
      obtain ⟨h1, h2⟩ := L.cel y j hj
      refine ⟨h1, fun hf => ?_⟩
      have hm := lookup_mem hf
      exact clOf_lookup (h2 (S.cel y (O.free y hm))) _ _ (.inl hm) (.inl rfl)
    have hfree : ∀ y, ls.names.lookup y = some .free → ∃ a', (clOf env ls.names []).lookup y = some a' := fun y hf => by
      have hm := lookup_mem hf
      obtain ⟨a', ha'⟩ := S.has y (S.cel y (O.free y hm))
      exact ⟨a', clOf_lookup ha' _ _ (.inl hm) (.inl rfl)⟩
    refine kla_eval (ha.dflt env) ?_
    -- what is left once the function's object stands
    have fin : ∀ (W₁ : Wd) (s₁ : Shared) (cv ctv : Value) (tk : Tok), Step P fr env W σ s W₁ σ s₁ → CodeFz W₁ cv q' →
        Post P fr env W σ s (.ok (.clo ps b σ.cel) σ) (.ref s₁.heap.objs.size) { s₁ with heap := s₁.heap.push { cls := .type "function", data := .func (kla_fn "<lambda>" (env.qual ++ "<lambda>") a body ls (clOf env ls.names []) ((mg "__name__").getD .none) cv ctv) }, toks := tk } := by
      intro W₁ s₁ cv ctv tk st₁ hcv
      have st₂ := Step.freeze (s' := { s₁ with heap := s₁.heap.push { cls := .type "function", data := .func (kla_fn "<lambda>" (env.qual ++ "<lambda>") a body ls (clOf env ls.names []) ((mg "__name__").getD .none) cv ctv) }, toks := tk }) st₁.inv st₁.loc { cls := .type "function", data := .func (kla_fn "<lambda>" (env.qual ++ "<lambda>") a body ls (clOf env ls.names []) ((mg "__name__").getD .none) cv ctv) } rfl rfl rfl rfl
      have st := st₁.trans st₂
      refine ⟨_, _, _, rfl, st, .clo (by show (if _ = _ then _ else _) = _; rw [if_pos rfl]) rfl ?_⟩
      refine ⟨⟨body, rfl, hb⟩, O.shape, ?_, rfl, rfl, fun cargs hl => ha.bind (kla_fn "<lambda>" (env.qual ++ "<lambda>") a body ls (clOf env ls.names []) ((mg "__name__").getD .none) cv ctv) rfl rfl cargs hl, hfree, fun y j hj => ⟨(hcel y j hj).1, fun hf => ?_⟩⟩
      · show CodeFz _ cv (env.qual ++ Str.ofString "<lambda>")
        exact (show CodeFz W₁ cv (env.qual ++ Str.ofString "<lambda>") from hq.symm ▸ hcv).mono st₂.nx.wle
      · rw [st.nx.wle.ρ j (hcel y j hj).1]; exact (hcel y j hj).2 hf
    cases hf : codeAmong p pl.toList with
    | some cv =>
      refine kla_makeFunctionHit (mg := mg) hcl L.glob hMg hc (hd.keeps I.keep) hget hT.1 hf hB fun ctv h' tk hkp _ => ?_
      have st₁ : Step P fr env W σ s W σ { s with heap := h', toks := tk } := Step.grow I L hkp rfl rfl
      exact fin W _ cv ctv tk st₁ (hT.2 p cv hf)
    | none =>
      refine kla_makeFunction (mg := mg) hcl L.glob hMg hc (hd.keeps I.keep) hget hT.1 hf hgP hB fun c' ctv h' tk hx hge hlt hrec htbl => ?_
      obtain ⟨c₂, oc, vs, t, e2, hoc, hdc, hv⟩ := hrec
      cases e2
      have hnew : s.heap.get? c' = none := Heap.get?_none_of_le hge
      have hcf : CodeFz (W.freeze c' oc) (.ref c') q' := ⟨c', oc, vs, t, rfl, by show (if _ = _ then _ else _) = _; rw [if_pos rfl], hdc, hq ▸ hv⟩
      have st₁ : Step P fr env W σ s (W.freeze c' oc) (σ.put k (.tab q')) { s with heap := h', toks := tk } :=
        Step.putFz I L hk F.hL (.tab q') (.tab ⟨by rw [Array.toList_append]; exact TriplesOk_snoc _ _ _ _ hT.1, fun pos cv e => by
          rw [Array.toList_append] at e
          rcases among_snoc _ hT.1 e with e | e
          · obtain ⟨c₁, o₁, vs₁, t₁, x1, x2, x3, x4⟩ := hT.2 pos cv e
            refine ⟨c₁, o₁, vs₁, t₁, x1, ?_, x3, x4⟩
            show (if c₁ = c' then _ else _) = _
            rw [if_neg]; exact x2
            rintro rfl; rw [(I.out hnew).notFz] at x2; cases x2
          · rw [e]; exact hcf⟩) hnew (fun b o hb e => hx b o hb e) htbl hoc rfl rfl
      rw [put_same hobj] at st₁
      exact fin _ _ (.ref c') ctv tk st₁ hcf
  exact ⟨key, okB_plain key fun _ => rfl⟩
end
end Mine
end
noncomputable section
set_option Elab.async false
set_option linter.all false
set_option maxRecDepth 100000
namespace Mine
open PySem PySem.W PyProof.Rows
section
variable {P : Par} {cx : Cx}
/-- every expression does what ev says -/
theorem sound (C : CxOk P cx) {x : X} {sc : Scope} {ph : Ph} (h : Ok x sc ph) : Snd P cx x sc ph := by
  induction h with
  | none => exact snd_none
  | none' => exact snd_none'
  | bool => exact snd_bool
  | tt => exact snd_tt
  | int => exact snd_int
  | str h => exact snd_str h
  | var h => exact snd_var h
  | cv h => exact snd_cv h
  | glob h => exact snd_glob C h
  | bin _ _ a b => exact snd_bin a b
  | neg _ a => exact snd_neg a
  | not _ a => exact snd_not a
  | cmp _ _ h a b => exact snd_cmp a b h
  | and _ _ a b => exact snd_and a b
  | and' _ _ a b => exact snd_and' a b
  | or _ _ a b => exact snd_or a b
  | or' _ _ a b => exact snd_or' a b
  | ite _ _ _ a b c => exact snd_ite a b c
  | idx _ _ h a b => exact snd_idx a b h
  | slc _ _ _ a b c => exact snd_slc a b c
  | attr _ h a => exact snd_attr C a h
  | list _ a => exact snd_list a
  | tup _ a => exact snd_tup a
  | nil => exact snd_nil
  | cons _ _ h a b => exact snd_cons a b h
  | call _ _ a b => exact snd_call C a b
  | meth _ _ h h' a b => exact snd_meth C a b h h'
  | comp _ _ _ h h' a b c => exact snd_comp a b c h h'
  | lam h hb hs => exact snd_lam C h hb hs
  | named h _ a => exact snd_named h a
end
end Mine
end
noncomputable section
set_option Elab.async false
set_option linter.all false
set_option maxRecDepth 100000
namespace Mine
open PySem PySem.W PyProof.Rows

inductive Fl where
  | next
  | brk
  | ret (v : V)

noncomputable def St.setC (σ : St) (x : Str) (v : V) : Option St := match σ.cel.lookup x with
  | some k => (match σ.obj k with | some (.cell _) => some { σ with obj := fun j => if j = k then some (.cell (some v)) else σ.obj j } | _ => none)
  | none => none

/-- a field is stored: at its place, or behind -/
noncomputable def setF (x : Str) (v : V) : List (Str × V) → List (Str × V)
  | [] => [(x, v)]
  | (y, u) :: r => if x == y then (y, v) :: r else (y, u) :: setF x v r

noncomputable def whileF (c : St → Rs Bool) (b o : St → Rs Fl) : Nat → St → Rs Fl
  | 0, _ => .bad
  | n + 1, σ => match c σ with
    | .ok true σ₁ => (match b σ₁ with
      | .ok .next σ₂ => whileF c b o n σ₂
      | .ok .brk σ₂ => .ok .next σ₂
      | .ok (.ret v) σ₂ => .ok (.ret v) σ₂
      | _ => .bad)
    | .ok false σ₁ => o σ₁
    | _ => .bad

open Classical in
noncomputable def eachF (v : V) (all : List V) (x : Str) (b : St → Rs Fl) : List V → St → Rs Fl
  | [], σ => if itsV σ.toHp v = some all then .ok .next σ else .bad
  | y :: r, σ => if itsV σ.toHp v = some all then (match b (σ.set x y) with
    | .ok .next σ₂ => eachF v all x b r σ₂
    | .ok .brk σ₂ => .ok .next σ₂
    | .ok (.ret u) σ₂ => .ok (.ret u) σ₂
    | _ => .bad) else .bad

noncomputable def condS (v : V) (σ : St) (t e : St → Rs Fl) : Rs Fl := match truV σ.toHp v with
  | some true => t σ
  | some false => e σ
  | none => .bad

structure Sx extends Cx where
  setA : V → Str → V → Hp → Option Hp

noncomputable def ownR (v : V) (σ : St) (k : V → St → Rs Fl) : Rs Fl := match v with
  | .list xs => k (.ref σ.nxt) (σ.add (.list xs))
  | _ => .bad

/-- a text grows -/
noncomputable def augV (u v : V) : Ov := (strOf u).elim .bad fun a => (strOf v).elim .bad fun b => if a.length + b.length ≤ sizeLine then .ok (.str (a ++ b)) else .bad
noncomputable def optS : Option St → Rs Fl
  | some σ => .ok .next σ
  | none => .bad
noncomputable def goOn (f : Fl) (σ : St) (k : St → Rs Fl) : Rs Fl := match f with
  | .next => k σ
  | f => .ok f σ
/-- what a pair holds -/
noncomputable def pairOf : V → Option (List V)
  | .tup xs => some xs
  | .list xs => some xs
  | _ => none
noncomputable def pairR (v : V) (k : V → V → Rs Fl) : Rs Fl := match pairOf v with
  | some [a, b] => k a b
  | _ => .bad
noncomputable def ex : S → Sx → St → Rs Fl
  | .brk, _, σ => .ok .brk σ
  | .expr e, cx, σ => (ev cx.toCx e σ).bind fun _ σ₁ => .ok .next σ₁
  | .asg x e, cx, σ => (ev cx.toCx e σ).bind fun v σ₁ => .ok .next (σ₁.set x v)
  | .asgC x e, cx, σ => (ev cx.toCx e σ).bind fun v σ₁ => optS (σ₁.setC x v)
  | .own x e, cx, σ => (ev cx.toCx e σ).bind fun v σ₁ => ownR v σ₁ fun r σ₂ => .ok .next (σ₂.set x r)
  | .ownC x e, cx, σ => (ev cx.toCx e σ).bind fun v σ₁ => ownR v σ₁ fun r σ₂ => optS (σ₂.setC x r)
  | .setA o f e, cx, σ => (ev cx.toCx e σ).bind fun v σ₁ => (ev cx.toCx o σ₁).bind fun vo σ₂ => optS ((cx.setA vo f v σ₂.toHp).map fun H => { σ₂ with toHp := H })
  | .aug x op e, cx, σ => (ev cx.toCx (.var x) σ).bind fun u σ₀ => (ev cx.toCx e σ₀).bind fun v σ₁ => ((augV u v).st σ₁).bind fun r σ₂ => .ok .next (σ₂.set x r)
  | .ret e, cx, σ => (ev cx.toCx e σ).bind fun v σ₁ => .ok (.ret v) σ₁
  | .ite c a b, cx, σ => (ev cx.toCx c σ).bind fun v σ₁ => condS v σ₁ (ex a cx) (ex b cx)
  | .loop n c b o, cx, σ => whileF (tr (ev cx.toCx c)) (ex b cx) (ex o cx) n σ
  | .each x it b, cx, σ => (ev cx.toCx it σ).bind fun v σ₁ => match itsV σ₁.toHp v with
    | some xs => eachF v xs x (ex b cx) xs σ₁
    | none => .bad
  | .assert e, cx, σ => (ev cx.toCx e σ).bind fun v σ₁ => condS v σ₁ (fun σ₁ => .ok .next σ₁) (fun _ => .bad)
  | .nil, _, σ => .ok .next σ
  | .seq a b, cx, σ => (ex a cx σ).bind fun f σ₁ => goOn f σ₁ (ex b cx)
  | .asg2 x y e, cx, σ => (ev cx.toCx e σ).bind fun v σ₁ => pairR v fun a b => .ok .next ((σ₁.set x a).set y b)
end Mine
end
noncomputable section
set_option Elab.async false
set_option linter.all false
set_option maxRecDepth 100000
namespace Mine
open PySem PySem.W PyProof.Rows
/-! the rules of ev and ex, one for each form -/
theorem evq_none {cx : Cx}  {σ : St} : ev cx (.none) σ = (.ok .none σ) := rfl
theorem evq_bool {cx : Cx} {b : _} {σ : St} : ev cx (.bool b) σ = (.ok (.bool b) σ) := rfl
theorem evq_int {cx : Cx} {i : _} {σ : St} : ev cx (.int i) σ = (.ok (.int i) σ) := rfl
theorem evq_str {cx : Cx} {s : _} {σ : St} : ev cx (.str s) σ = (.ok (.str s) σ) := rfl
theorem evq_var {cx : Cx} {x : _} {σ : St} : ev cx (.var x) σ = (match σ.loc.lookup x with | some v => .ok v σ | Option.none => .bad) := rfl
theorem evq_cv {cx : Cx} {x : _} {σ : St} : ev cx (.cv x) σ = (match σ.cel.lookup x with
    | some k => (match σ.obj k with | some (.cell (some v)) => .ok v σ | _ => .bad)
    | Option.none => .bad) := rfl
theorem evq_glob {cx : Cx} {x : _} {σ : St} : ev cx (.glob x) σ = (match cx.gl x with | some v => .ok v σ | Option.none => .bad) := rfl
theorem evq_bin {cx : Cx} {op : _} {a : _} {b : _} {σ : St} : ev cx (.bin op a b) σ = ((ev cx a σ).bind fun va σ₁ => (ev cx b σ₁).bind fun vb σ₂ => (binV σ₂.toHp op va vb).st σ₂) := rfl
theorem evq_neg {cx : Cx} {a : _} {σ : St} : ev cx (.neg a) σ = ((ev cx a σ).bind fun va σ₁ => (negV va).st σ₁) := rfl
theorem evq_not {cx : Cx} {a : _} {σ : St} : ev cx (.not a) σ = ((ev cx a σ).bind fun va σ₁ => match truV σ₁.toHp va with | some b => .ok (.bool !b) σ₁ | Option.none => .bad) := rfl
theorem evq_cmp {cx : Cx} {op : _} {a : _} {b : _} {σ : St} : ev cx (.cmp op a b) σ = ((ev cx a σ).bind fun va σ₁ => (ev cx b σ₁).bind fun vb σ₂ => (cmpV σ₂.toHp op va vb).st σ₂) := rfl
theorem evq_and {cx : Cx} {a : _} {b : _} {σ : St} : ev cx (.and a b) σ = ((ev cx a σ).bind fun va σ₁ => condR va σ₁ (ev cx b) (fun σ₁ => .ok va σ₁)) := rfl
theorem evq_or {cx : Cx} {a : _} {b : _} {σ : St} : ev cx (.or a b) σ = ((ev cx a σ).bind fun va σ₁ => condR va σ₁ (fun σ₁ => .ok va σ₁) (ev cx b)) := rfl
theorem evq_ite {cx : Cx} {c : _} {a : _} {b : _} {σ : St} : ev cx (.ite c a b) σ = ((ev cx c σ).bind fun vc σ₁ => condR vc σ₁ (ev cx a) (ev cx b)) := rfl
theorem evq_idx {cx : Cx} {a : _} {i : _} {σ : St} : ev cx (.idx a i) σ = ((ev cx a σ).bind fun va σ₁ => (ev cx i σ₁).bind fun vi σ₂ => (idxV σ₂.toHp va vi).st σ₂) := rfl
theorem evq_slc {cx : Cx} {a : _} {lo : _} {hi : _} {σ : St} : ev cx (.slc a lo hi) σ = ((ev cx a σ).bind fun va σ₁ => (ev cx lo σ₁).bind fun vl σ₂ => (ev cx hi σ₂).bind fun vh σ₃ => (slcV σ₃.toHp va vl vh).st σ₃) := rfl
theorem evq_attr {cx : Cx} {o : _} {f : _} {σ : St} : ev cx (.attr o f) σ = ((ev cx o σ).bind fun vo σ₁ => (cx.fld vo f σ₁.toHp).st σ₁) := rfl
theorem evq_list {cx : Cx} {es : _} {σ : St} : ev cx (.list es) σ = ((ev cx es σ).bind fun vs σ₁ => argR vs σ₁ fun xs σ₁ => fits xs.length (.ok (.list xs) σ₁)) := rfl
theorem evq_tup {cx : Cx} {es : _} {σ : St} : ev cx (.tup es) σ = ((ev cx es σ).bind fun vs σ₁ => argR vs σ₁ fun xs σ₁ => fits xs.length (.ok (.tup xs) σ₁)) := rfl
theorem evq_nil {cx : Cx}  {σ : St} : ev cx (.nil) σ = (.ok (.list []) σ) := rfl
theorem evq_cons {cx : Cx} {a : _} {b : _} {σ : St} : ev cx (.cons a b) σ = ((ev cx a σ).bind fun va σ₁ => (ev cx b σ₁).bind fun vs σ₂ => argR vs σ₂ fun xs σ₂ => .ok (.list (va :: xs)) σ₂) := rfl
theorem evq_call {cx : Cx} {f : _} {as : _} {σ : St} : ev cx (.call f as) σ = ((ev cx f σ).bind fun vf σ₁ => (ev cx as σ₁).bind fun vs σ₂ => argR vs σ₂ fun xs σ₂ => (cx.app vf xs σ₂.toHp).lift σ₂) := rfl
theorem evq_meth {cx : Cx} {o : _} {m : _} {as : _} {σ : St} : ev cx (.meth o m as) σ = ((ev cx o σ).bind fun vo σ₁ => match cx.get vo m σ₁.toHp with
    | some (vf, first) => (ev cx as σ₁).bind fun vs σ₂ => argR vs σ₂ fun xs σ₂ => (cx.app vf (first ++ xs) σ₂.toHp).lift σ₂
    | Option.none => .bad) := rfl
theorem evq_comp {cx : Cx} {elt : _} {x : _} {it : _} {cond : _} {σ : St} : ev cx (.comp elt x it cond) σ = ((ev cx it σ).bind fun vi σ₁ => match itsV σ₁.toHp vi with
    | some xs => (turns vi xs (fun v σ₂ => (ev cx cond { σ₂ with loc := [(x, v)], cel := σ₁.cel, tbl := Option.none }).bind fun b σ₃ => condO b σ₃ (ev cx elt)) xs σ₁).bind fun vs σ₂ => fits vs.length (.ok (.list vs) { σ₁ with toHp := σ₂.toHp })
    | Option.none => .bad) := rfl
theorem evq_lam {cx : Cx} {ps : _} {b : _} {σ : St} : ev cx (.lam ps b) σ = (lamR σ (.clo ps b σ.cel)) := rfl
theorem evq_named {cx : Cx} {x : _} {e : _} {σ : St} : ev cx (.named x e) σ = ((ev cx e σ).bind fun v σ₁ => .ok v (σ₁.set x v)) := rfl
theorem exq_brk {cx : Sx}  {σ : St} : ex (.brk) cx σ = (.ok .brk σ) := rfl
theorem exq_expr {cx : Sx} {e : _} {σ : St} : ex (.expr e) cx σ = ((ev cx.toCx e σ).bind fun _ σ₁ => .ok .next σ₁) := rfl
theorem exq_asg {cx : Sx} {x : _} {e : _} {σ : St} : ex (.asg x e) cx σ = ((ev cx.toCx e σ).bind fun v σ₁ => .ok .next (σ₁.set x v)) := rfl
theorem exq_asgC {cx : Sx} {x : _} {e : _} {σ : St} : ex (.asgC x e) cx σ = ((ev cx.toCx e σ).bind fun v σ₁ => optS (σ₁.setC x v)) := rfl
theorem exq_own {cx : Sx} {x : _} {e : _} {σ : St} : ex (.own x e) cx σ = ((ev cx.toCx e σ).bind fun v σ₁ => ownR v σ₁ fun r σ₂ => .ok .next (σ₂.set x r)) := rfl
theorem exq_ownC {cx : Sx} {x : _} {e : _} {σ : St} : ex (.ownC x e) cx σ = ((ev cx.toCx e σ).bind fun v σ₁ => ownR v σ₁ fun r σ₂ => optS (σ₂.setC x r)) := rfl
theorem exq_setA {cx : Sx} {o : _} {f : _} {e : _} {σ : St} : ex (.setA o f e) cx σ = ((ev cx.toCx e σ).bind fun v σ₁ => (ev cx.toCx o σ₁).bind fun vo σ₂ => optS ((cx.setA vo f v σ₂.toHp).map fun H => { σ₂ with toHp := H })) := rfl
theorem exq_aug {cx : Sx} {x : _} {op : _} {e : _} {σ : St} : ex (.aug x op e) cx σ = ((ev cx.toCx (.var x) σ).bind fun u σ₀ => (ev cx.toCx e σ₀).bind fun v σ₁ => ((augV u v).st σ₁).bind fun r σ₂ => .ok .next (σ₂.set x r)) := rfl
theorem exq_ret {cx : Sx} {e : _} {σ : St} : ex (.ret e) cx σ = ((ev cx.toCx e σ).bind fun v σ₁ => .ok (.ret v) σ₁) := rfl
theorem exq_ite {cx : Sx} {c : _} {a : _} {b : _} {σ : St} : ex (.ite c a b) cx σ = ((ev cx.toCx c σ).bind fun v σ₁ => condS v σ₁ (ex a cx) (ex b cx)) := rfl
theorem exq_loop {cx : Sx} {n : _} {c : _} {b : _} {o : _} {σ : St} : ex (.loop n c b o) cx σ = (whileF (tr (ev cx.toCx c)) (ex b cx) (ex o cx) n σ) := rfl
theorem exq_each {cx : Sx} {x : _} {it : _} {b : _} {σ : St} : ex (.each x it b) cx σ = ((ev cx.toCx it σ).bind fun v σ₁ => match itsV σ₁.toHp v with
    | some xs => eachF v xs x (ex b cx) xs σ₁
    | none => .bad) := rfl
theorem exq_assert {cx : Sx} {e : _} {σ : St} : ex (.assert e) cx σ = ((ev cx.toCx e σ).bind fun v σ₁ => condS v σ₁ (fun σ₁ => .ok .next σ₁) (fun _ => .bad)) := rfl
theorem exq_nil {cx : Sx}  {σ : St} : ex (.nil) cx σ = (.ok .next σ) := rfl
theorem exq_seq {cx : Sx} {a : _} {b : _} {σ : St} : ex (.seq a b) cx σ = ((ex a cx σ).bind fun f σ₁ => goOn f σ₁ (ex b cx)) := rfl
theorem exq_asg2 {cx : Sx} {x : _} {y : _} {e : _} {σ : St} : ex (.asg2 x y e) cx σ = ((ev cx.toCx e σ).bind fun v σ₁ => pairR v fun a b => .ok .next ((σ₁.set x a).set y b)) := rfl
end Mine
end
noncomputable section
set_option Elab.async false
set_option linter.all false
set_option maxRecDepth 100000
namespace Mine
open PySem PySem.W PyProof.Rows

/-- a frame of a def: it stands on top -/
structure FmS (P : Par) (lv : Nat) (fr : List Nat) (A : Around) (env : Env) : Prop extends Fm P lv fr A env where
  top : ∃ outer, A.frames = some (env :: outer)
  frame : env.frame = some env.locals

section
variable {P : Par} {fr : List Nat} {A : Around} {env : Env} {W W' : Wd} {σ σ' : St} {s s' : Shared} {lv : Nat}

theorem funFrames {h : Heap} (hB : ∀ a ∈ fr, P.B.get? a = none ∧ ∃ o, h.get? a = some o ∧ ∀ vs, o.data ≠ .fields vs) : ∀ {l : List Env}, (∀ e ∈ l, e.scope.kind ≠ .module ∧ ∃ L, e.frame = some L ∧ L ∈ fr) → h.FunFrames P.B l
  | [], _ => trivial
  | e :: r, hl => by
    obtain ⟨hk, L, hf, hm⟩ := hl e (.head _)
    obtain ⟨b, o, ho, hd⟩ := hB L hm
    exact ⟨hk, ⟨L, o, hf, b, ho, hd⟩, funFrames hB fun e' he' => hl e' (.tail _ he')⟩

end
end Mine
end
noncomputable section
set_option Elab.async false
set_option linter.all false
set_option maxRecDepth 100000
namespace Mine
open PySem PySem.W PyProof.Rows

inductive FlR (W : Wd) (n : Nat) : Fl → Flow → Prop
  | next : FlR W n .next .next
  | brk : FlR W n .brk .brk
  | ret {v : V} {c : Value} : VR W n v c → FlR W n (.ret v) (.ret c)

structure SxOk (P : Par) (cx : Sx) : Prop where
  base : CxOk P cx.toCx
  setA : ∀ fr A env, Fm P cx.lvl fr A env → ∀ W σ s, Inv P fr W σ.toHp s → Loc P env W σ s.heap → ∀ o f v co c H, VR W σ.nxt o co → VR W σ.nxt v c → cx.setA o f v σ.toHp = some H →
    ∀ (E : Value → Shared → Prop) (Q : Unit → Shared → Prop), (∀ W' s', Step P fr env W σ s W' { σ with toHp := H } s' → Q () s') → wpAny P.M A (setAttr co f c) Q E s

section
variable (P : Par) (fr : List Nat) (env : Env) (W : Wd) (σ : St) (s : Shared)
noncomputable def PostF (r : Rs Fl) (f : Flow) (s' : Shared) : Prop := ∃ v σ' W', r = .ok v σ' ∧ Step P fr env W σ s W' σ' s' ∧ FlR W' σ'.nxt v f
end
noncomputable def OkS (P : Par) (fr : List Nat) (A : Around) (env : Env) (t : Sem Flow) (f : St → Rs Fl) : Prop :=
  ∀ W σ s, Inv P fr W σ.toHp s → Loc P env W σ s.heap → f σ ≠ .bad → wpAny P.M A t (PostF P fr env W σ s (f σ)) NoE s

noncomputable def ClaimS (P : Par) (cx : Sx) (st : S) (fr : List Nat) (A : Around) (env : Env) : Pt → Prop
  | .s x => OkS P fr A env (exec x env) (ex st cx)
  | .l x => OkS P fr A env (execs x env) (ex st cx)

noncomputable def SndS (P : Par) (st : S) (sc : Scope) (pt : Pt) : Prop := ∀ cx : Sx, SxOk P cx → ∀ fr A env, FmS P cx.lvl fr A env → ScOk sc env → ClaimS P cx st fr A env pt

section
variable {P : Par} {fr : List Nat} {A : Around} {env : Env} {W W' : Wd} {σ σ' : St} {s s' : Shared} {cx : Sx}

theorem PostF.after {r : Rs Fl} {c : Flow} {s'' : Shared} (a : Step P fr env W σ s W' σ' s') (b : PostF P fr env W' σ' s' r c s'') : PostF P fr env W σ s r c s'' :=
  let ⟨v, σ'', W'', e, st, h⟩ := b; ⟨v, σ'', W'', e, a.trans st, h⟩

theorem sndS_brk {sc : Scope} {p : Pos} : SndS P .brk sc (.s (.Break p)) := fun cx C fr A env F S W σ s I L _ => wpAny_Break ⟨_, σ, W, rfl, Step.refl I L, .brk⟩
theorem sndS_ret {sc : Scope} {e : X} {v : Expr} {p : Pos} (h : Ok e sc (.e v)) : SndS P (.ret e) sc (.s (.Return (some v) p)) := fun cx C fr A env F S W σ s I L hne =>
  wpAny_Return_some (then1p (k := fun v σ₁ => Rs.ok (Fl.ret v) σ₁) (sound C.base h fr A env F.toFm S).1 I L hne (fun e s' h => h) fun v c W' σ' s' e st hv => ⟨_, σ', W', Rs.bind_ok e, st, .ret hv⟩)
theorem sndS_nil {sc : Scope} : SndS P .nil sc (.l []) := fun cx C fr A env F S W σ s I L _ => wpAny_execs_nil ⟨_, σ, W, rfl, Step.refl I L, .next⟩
theorem sndS_seq {sc : Scope} {a b : S} {x : Stmt} {r : List Stmt} (ia : SndS P a sc (.s x)) (ib : SndS P b sc (.l r)) : SndS P (.seq a b) sc (.l (x :: r)) := by
  intro cx C fr A env F S
  have Ja := ia cx C fr A env F S
  have Jb := ib cx C fr A env F S
  intro W σ s I L hne
  have hev : ex (.seq a b) cx σ = (ex a cx σ).bind fun f σ₁ => goOn f σ₁ (ex b cx) := rfl
  rw [hev] at hne ⊢
  refine wpAny_execs_cons (wpAny_mono (Ja W σ s I L (Rs.bind_ne hne)) (fun f s₁ ⟨v, σ₁, W₁, e₁, st₁, hv⟩ => ?_) (fun e s' h => h.elim))
  rw [Rs.bind_ok e₁] at hne ⊢
  cases hv with
  | next => exact wpAny_mono (Jb W₁ σ₁ s₁ st₁.inv st₁.loc hne) (fun c s' h => h.after st₁) fun e s' h => h.after st₁
  | brk => exact ⟨_, σ₁, W₁, rfl, st₁, .brk⟩
  | ret hv => exact ⟨_, σ₁, W₁, rfl, st₁, .ret hv⟩

theorem swaps_none {e : Expr} (h : isCompE e = false) (t : Option Expr) (l : Nat) (env : Env) : swapsWith e t l env = pure false := by
  cases e <;> first | rfl | cases h
theorem not_interactive (L : Loc P env W σ s.heap) : interactive env = false := by unfold interactive; rw [L.kind]; rfl

theorem sndS_expr {sc : Scope} {e : X} {v : Expr} {p : Pos} (h : Ok e sc (.e v)) (h2 : isCompE v = false) : SndS P (.expr e) sc (.s (.Expr v p)) := fun cx C fr A env F S W σ s I L hne =>
  wpAny_Expr_any (then1p (k := fun _ σ₁ => Rs.ok Fl.next σ₁) (sound C.base h fr A env F.toFm S).1 I L hne (fun e s' h => h) fun v c W' σ' s' e st hv => ⟨_, σ', W', Rs.bind_ok e, st, .next⟩) (not_interactive L) (swaps_none h2 ..)

theorem store_ok {E : Value → Shared → Prop} (F : FmS P cx.lvl fr A env) (I : Inv P fr W σ.toHp s) (L : Loc P env W σ s.heap) {x : Str} {v : V} {c : Value} (hx : env.kindOf x = some .local) (hv : VR W σ.nxt v c) {Q : Unit → Shared → Prop}
    (hq : ∀ s', Step P fr env W σ s W (σ.set x v) s' → Q () s') : wpAny P.M A (storeName env x c) Q E s := by
  obtain ⟨m, hn, _⟩ := L.loc
  exact wpAny_storeName_local hx hn (fun h' hn' hs' => hq _ (Step.set I L F.hL hv hx hn hn' hs' rfl rfl)) (by rw [L.kind]; rfl)

theorem cell_step (I : Inv P fr W σ.toHp s) (L : Loc P env W σ s.heap) (hL : env.locals ∈ fr) {x : Str} {v : V} {c : Value} {σ' : St} (e : σ.setC x v = some σ') (hv : VR W σ.nxt v c) :
    ∃ k, k < σ.nxt ∧ σ.cel.lookup x = some k ∧ ((env.kindOf x = some .cell ∨ env.kindOf x = some .free) → env.cells.lookup x = some (W.ρ k)) ∧ (∃ v₀, s.heap.IsCell (W.ρ k) v₀) ∧
      ∀ s' : Shared, s'.heap.IsCell (W.ρ k) (some c) → Heap.SameBut (W.ρ k) s.heap s'.heap → s'.gens = s.gens → s'.os = s.os → Step P fr env W σ s W σ' s' := by
  unfold St.setC at e
  split at e
  · rename_i k hk
    split at e
    · rename_i v0 ho
      cases e
      obtain ⟨p, q⟩ := L.cel x k hk
      obtain ⟨_, ob, hg, hr⟩ := I.obj k _ ho
      have hcell : ∃ v₀, s.heap.IsCell (W.ρ k) v₀ := by
        cases hr with
        | cell hd _ => exact ⟨_, _, hg, hd⟩
        | nocell hd => exact ⟨_, _, hg, hd⟩
      refine ⟨k, p, hk, q, hcell, fun s' hc hs hg' ho' => ?_⟩
      obtain ⟨o, e1, d1⟩ := hc
      exact Step.put I L p hL (.cell (some v)) (.cell d1 hv) (fun b o hb e => (hs.2 b hb).trans e) e1 hg' ho'
    · cases e
  · cases e

theorem storeC_ok {E : Value → Shared → Prop} (F : FmS P cx.lvl fr A env) (I : Inv P fr W σ.toHp s) (L : Loc P env W σ s.heap) {x : Str} {v : V} {c : Value} {σ' : St} (e : σ.setC x v = some σ') (hx : env.kindOf x = some .cell) (hv : VR W σ.nxt v c) {Q : Unit → Shared → Prop}
    (hq : ∀ s', Step P fr env W σ s W σ' s' → Q () s') : wpAny P.M A (storeName env x c) Q E s := by
  obtain ⟨k, p, hk, q, ⟨v₀, hcell⟩, hst⟩ := cell_step I L F.hL e hv
  exact wpAny_storeName_cell L.kind hx (q (.inl hx)) hcell fun h' hc hs => hq _ (hst _ hc hs rfl rfl)
end
end Mine
end
noncomputable section
set_option Elab.async false
set_option linter.all false
set_option maxRecDepth 100000
namespace Mine
open PySem PySem.W PyProof.Rows

section
variable {P : Par} {fr : List Nat} {A : Around} {env : Env} {W W' : Wd} {σ σ' : St} {s s' : Shared} {cx : Sx}

/-- an object made since the step's start becomes an owned one -/
theorem Step.addLate (st : Step P fr env W σ s W' σ' s') {a : Nat} {o : O} {c : Obj} (hn : s.heap.get? a = none) (e : s'.heap.get? a = some c) (x : Out P fr W' σ'.nxt a) (hr : OR (W'.add σ'.nxt a) (σ'.nxt + 1) o c) :
    Step P fr env W σ s (W'.add σ'.nxt a) (σ'.add o) s' := by
  have wl := W'.add_le σ'.nxt a
  have J := st.inv
  have ρn : (W'.add σ'.nxt a).ρ σ'.nxt = a := by show (if σ'.nxt = σ'.nxt then _ else _) = _; rw [if_pos rfl]
  have hlt : ∀ k, k < σ'.nxt + 1 → k = σ'.nxt ∨ (k < σ'.nxt ∧ (W'.add σ'.nxt a).ρ k = W'.ρ k) := fun k h => by
    rcases Nat.lt_succ_iff_lt_or_eq.mp h with h | h
    · exact .inr ⟨h, wl.ρ k h⟩
    · exact .inl h
  refine ⟨⟨st.nx.wle.trans st.nx.le wl, Nat.le_succ_of_le st.nx.le, st.nx.live, fun k h1 h2 => ?_, st.nx.fzn, st.nx.ext, st.nx.fext⟩,
    ⟨J.keep, fun k h => ?_, fun k h => ?_, fun k h => ?_, fun k h => ?_, fun i j hi hj h => ?_, fun k o' h => ?_, J.frz, J.frB, J.gens, J.os, Nat.succ_pos _, (wl.ρ 0 J.tab0.1).trans J.tab0.2⟩, ?_⟩
  · rcases hlt k h2 with rfl | ⟨q, r⟩
    · rw [ρn]; exact hn
    · rw [r]; exact st.nx.new k h1 q
  · rcases hlt k h with rfl | ⟨q, r⟩
    · rw [ρn]; exact x.notB
    · rw [r]; exact J.old k q
  · rcases hlt k h with rfl | ⟨q, r⟩
    · rw [ρn]; exact ⟨_, e⟩
    · rw [r]; exact J.live k q
  · rcases hlt k h with rfl | ⟨q, r⟩
    · rw [ρn]; exact x.notFr
    · rw [r]; exact J.nofr k q
  · rcases hlt k h with rfl | ⟨q, r⟩
    · rw [ρn]; exact x.notFz
    · rw [r]; exact J.nofz k q
  · rcases hlt i hi with rfl | ⟨q, r⟩ <;> rcases hlt j hj with rfl | ⟨q', r'⟩
    · rfl
    · rw [ρn, r'] at h; exact absurd h.symm (x.notOwn j q')
    · rw [ρn, r] at h; exact absurd h (x.notOwn i q)
    · rw [r, r'] at h; exact J.inj i j q q' h
  · have h' : (if k = σ'.nxt then some o else σ'.obj k) = some o' := h
    by_cases hk' : k = σ'.nxt
    · subst hk'
      rw [if_pos rfl] at h'; cases h'
      exact ⟨Nat.lt_succ_self _, c, by rw [ρn]; exact e, hr⟩
    · rw [if_neg hk'] at h'
      obtain ⟨a', c', b, d⟩ := J.obj k o' h'
      exact ⟨Nat.lt_succ_of_lt a', c', by rw [wl.ρ k a']; exact b, d.mono wl (Nat.le_succ _)⟩
  · have J' := st.loc
    exact ⟨J'.kind, J'.glob, J'.bns, let ⟨m, a, b⟩ := J'.loc; ⟨m, a, fun x v h => let ⟨p, c, q, r⟩ := b x v h; ⟨p, c, q, r.mono wl (Nat.le_succ _)⟩⟩,
      fun x k h => let ⟨p, q⟩ := J'.cel x k h; ⟨Nat.lt_succ_of_lt p, fun hk => by rw [wl.ρ k p]; exact q hk⟩,
      fun k q h => let ⟨p, r⟩ := J'.cod k q h; ⟨Nat.lt_succ_of_lt p, by rw [wl.ρ k p]; exact r⟩⟩

/-- what becomes of a new list: it stays as it is, or it is ours -/
inductive Keep where
  | froze
  | owned
noncomputable def Keep.val (k : Keep) (xs : List V) (σ : St) : V := match k with | .froze => .list xs | .owned => .ref σ.nxt
noncomputable def Keep.st (k : Keep) (xs : List V) (σ : St) : St := match k with | .froze => σ | .owned => σ.add (.list xs)

theorem Raw.keep (k : Keep) {xs : List V} {a : Nat} (R : Raw P fr env W σ s xs σ' a W' s') : ∃ W'', Step P fr env W σ s W'' (k.st xs σ') s' ∧ VR W'' (k.st xs σ').nxt (k.val xs σ') (.ref a) ∧ ∀ b, b ≠ a → Out P fr W' σ'.nxt b → Out P fr W'' (k.st xs σ').nxt b := by
  obtain ⟨ys, n, q1, q2⟩ := R.at_
  have hlen : ys.size ≤ sizeLine := by
    have := q2.length
    rw [Array.length_toList] at this
    have := R.sz
    omega
  cases k with
  | froze =>
    have wl : Wle σ'.nxt W' (W'.freeze a (listOf ys n)) := ⟨fun _ _ => rfl, fun b c e => by
      show (if b = a then _ else _) = _
      rw [if_neg]; exact e
      rintro rfl; rw [R.out.notFz] at e; cases e⟩
    refine ⟨_, R.st.freezeLate R.new q1 R.out, .list (o := listOf ys n) (items := ys) (e := n) ?_ rfl rfl hlen (q2.mono wl (Nat.le_refl _)) rfl, fun b hb o => ⟨o.notB, o.notFr, ?_, o.notOwn⟩⟩
    · show (if a = a then _ else _) = _
      rw [if_pos rfl]
    · show (if b = a then _ else _) = _
      rw [if_neg hb]; exact o.notFz
  | owned =>
    have wl := W'.add_le σ'.nxt a
    have ρn : (W'.add σ'.nxt a).ρ σ'.nxt = a := by show (if σ'.nxt = σ'.nxt then _ else _) = _; rw [if_pos rfl]
    refine ⟨_, R.st.addLate R.new q1 R.out (.list (q2.mono wl (Nat.le_succ _)) hlen), ?_, fun b hb o => ⟨o.notB, o.notFr, o.notFz, fun k hk q => ?_⟩⟩
    · have h1 : VR (W'.add σ'.nxt a) (σ'.nxt + 1) (.ref σ'.nxt) (.ref ((W'.add σ'.nxt a).ρ σ'.nxt)) := .ref (Nat.lt_succ_self _)
      rw [ρn] at h1; exact h1
    · rcases Nat.lt_succ_iff_lt_or_eq.mp hk with h | h
      · rw [wl.ρ k h] at q; exact o.notOwn k h q
      · subst h; rw [ρn] at q; exact hb q.symm

/-- a name's store, of either kind -/
inductive Tgt where
  | loc
  | cel
noncomputable def Tgt.put (t : Tgt) (σ : St) (x : Str) (v : V) : Option St := match t with | .loc => some (σ.set x v) | .cel => σ.setC x v
noncomputable def Tgt.kind : Tgt → NameKind
  | .loc => .local
  | .cel => .cell
theorem tgt_store {E : Value → Shared → Prop} (t : Tgt) (F : FmS P cx.lvl fr A env) (I : Inv P fr W σ.toHp s) (L : Loc P env W σ s.heap) {x : Str} {v : V} {c : Value} {σ' : St} (e : t.put σ x v = some σ') (hx : env.kindOf x = some t.kind) (hv : VR W σ.nxt v c) {Q : Unit → Shared → Prop}
    (hq : ∀ s', Step P fr env W σ s W σ' s' → σ'.nxt = σ.nxt → Q () s') : wpAny P.M A (storeName env x c) Q E s := by
  cases t with
  | loc => cases e; exact store_ok F I L hx hv fun s' st => hq s' st rfl
  | cel =>
    refine storeC_ok F I L e hx hv fun s' st => hq s' st ?_
    have e' : σ.setC x v = some σ' := e
    unfold St.setC at e'
    split at e'
    · split at e'
      · cases e'; rfl
      · cases e'
    · cases e'

end
end Mine
end
noncomputable section
set_option Elab.async false
set_option linter.all false
set_option maxRecDepth 100000
namespace Mine
open PySem PySem.W PyProof.Rows

section
variable {P : Par} {fr : List Nat} {A : Around} {env : Env} {W W' : Wd} {σ σ' : St} {s s' : Shared} {cx : Sx}

theorem assign_ok (C : SxOk P cx) (F : FmS P cx.lvl fr A env) {sc : Scope} (S : ScOk sc env) (t : Tgt) {e : X} {v : Expr} {x : Str} {p pos : Pos} (h : Ok e sc (.e v)) (hc : isCompE v = false) (hx : env.kindOf x = some t.kind)
    (I : Inv P fr W σ.toHp s) (L : Loc P env W σ s.heap) (hne : ((ev cx.toCx e σ).bind fun u σ₁ => optS (t.put σ₁ x u)) ≠ .bad) :
    wpAny P.M A (exec (.Assign [.Name x p] v pos) env) (PostF P fr env W σ s ((ev cx.toCx e σ).bind fun u σ₁ => optS (t.put σ₁ x u))) NoE s := by
  refine wpAny_Assign_Name (then1p (sound C.base h fr A env F.toFm S).1 I L hne (fun e s' h => h) fun u c W₁ σ₁ s₁ e₁ st₁ hu => ?_) (swaps_none hc ..)
  rw [Rs.bind_ok e₁] at hne ⊢
  cases hp : t.put σ₁ x u with
  | none => rw [hp] at hne; exact absurd rfl hne
  | some σ₂ => exact tgt_store t F st₁.inv st₁.loc hp hx hu fun s₂ st₂ _ => ⟨_, σ₂, W₁, rfl, st₁.trans st₂, .next⟩
theorem sndS_asg {sc : Scope} {x : Str} {e : X} {v : Expr} {q p : Pos} (h1 : sc.names.lookup x = some .local) (h : Ok e sc (.e v)) (hc : isCompE v = false) : SndS P (.asg x e) sc (.s (.Assign [.Name x q] v p)) :=
  fun cx C fr A env F S W σ s I L hne => assign_ok C F S .loc h hc (S.loc x h1) I L hne
theorem sndS_asgC {sc : Scope} {x : Str} {e : X} {v : Expr} {q p : Pos} (h1 : sc.names.lookup x = some .cell) (h : Ok e sc (.e v)) (hc : isCompE v = false) : SndS P (.asgC x e) sc (.s (.Assign [.Name x q] v p)) :=
  fun cx C fr A env F S W σ s I L hne => assign_ok C F S .cel h hc (S.cell x h1) I L hne
/-- a display's list, ours from now on -/
theorem display_raw (C : SxOk P cx) (F : FmS P cx.lvl fr A env) {sc : Scope} (S : ScOk sc env) {es : X} {l : List Expr} {p : Pos} (h : Ok es sc (.es l)) (I : Inv P fr W σ.toHp s) (L : Loc P env W σ s.heap) (hne : ev cx.toCx (.list es) σ ≠ .bad) {Q : Value → Shared → Prop} {E : Value → Shared → Prop}
    (hE : ∀ e s', NoE e s' → E e s') (hq : ∀ xs σ' a W' s', ev cx.toCx (.list es) σ = .ok (.list xs) σ' → Raw P fr env W σ s xs σ' a W' s' → Q (.ref a) s') : wpAny P.M A (eval (.List l p) env) Q E s := by
  have Je := (sound C.base h fr A env F.toFm S) p
  have hev : ev cx.toCx (.list es) σ = (ev cx.toCx es σ).bind fun vs σ₁ => argR vs σ₁ fun xs σ₁ => fits xs.length (.ok (.list xs) σ₁) := rfl
  rw [hev] at hne hq
  refine List_ (thenArgs Je.2.2 I L hne hE fun xs cs W' σ' s' e st hv => ?_)
  rw [e] at hne hq
  obtain ⟨hz, r⟩ := fits_ne hne
  rw [r] at hq
  have hz' : cs.length ≤ sizeLine := by rw [hv.length]; exact hz
  have nA : s'.heap.get? s'.heap.objs.size = none := size_new _
  have stp : Step P fr env W' σ' s' W' σ' { s' with heap := s'.heap.push { cls := .type "list", data := .seq cs.toArray } } := Step.push st.inv st.loc _ rfl rfl rfl
  refine wpAny_newObj_type (hq xs σ' _ W' _ rfl ⟨st.trans stp, ?_, Out.new st.inv nA, ⟨cs.toArray, 0, Heap.get?_push_size _ rfl, by simpa using hv⟩, hz⟩) (by show cs.toArray.size ≤ sizeLine; rw [List.size_toArray]; exact hz')
  cases q : s.heap.get? s'.heap.objs.size with
  | none => rfl
  | some o => obtain ⟨o', e'⟩ := st.nx.live _ _ q; rw [nA] at e'; cases e'

theorem own_ok (C : SxOk P cx) (F : FmS P cx.lvl fr A env) {sc : Scope} (S : ScOk sc env) (t : Tgt) {es : X} {l : List Expr} {x : Str} {p pos r : Pos} (h : Ok es sc (.es l)) (hx : env.kindOf x = some t.kind)
    (I : Inv P fr W σ.toHp s) (L : Loc P env W σ s.heap) (hne : ((ev cx.toCx (.list es) σ).bind fun u σ₁ => ownR u σ₁ fun r σ₂ => optS (t.put σ₂ x r)) ≠ .bad) :
    wpAny P.M A (exec (.Assign [.Name x p] (.List l r) pos) env) (PostF P fr env W σ s ((ev cx.toCx (.list es) σ).bind fun u σ₁ => ownR u σ₁ fun r σ₂ => optS (t.put σ₂ x r))) NoE s := by
  refine wpAny_Assign_Name (display_raw C F S h I L (Rs.bind_ne hne) (fun e s' h => h.elim) fun xs σ₁ a W₁ s₁ e₁ R => ?_) (swaps_none rfl ..)
  rw [Rs.bind_ok e₁] at hne ⊢
  have hr : ownR (.list xs) σ₁ (fun r σ₂ => optS (t.put σ₂ x r)) = optS (t.put (Keep.owned.st xs σ₁) x (Keep.owned.val xs σ₁)) := rfl
  rw [hr] at hne ⊢
  obtain ⟨W₂, st₂, hv₂, _⟩ := R.keep .owned
  cases hp : t.put (Keep.owned.st xs σ₁) x (Keep.owned.val xs σ₁) with
  | none => rw [hp] at hne; exact absurd rfl hne
  | some σ₂ => exact tgt_store t F st₂.inv st₂.loc hp hx hv₂ fun s₃ st₃ _ => ⟨_, σ₂, W₂, rfl, st₂.trans st₃, .next⟩
theorem sndS_own {sc : Scope} {x : Str} {es : X} {l : List Expr} {q p r : Pos} (h1 : sc.names.lookup x = some .local) (h : Ok es sc (.es l)) : SndS P (.own x (.list es)) sc (.s (.Assign [.Name x q] (.List l r) p)) :=
  fun cx C fr A env F S W σ s I L hne => own_ok C F S .loc h (S.loc x h1) I L hne
theorem sndS_ownC {sc : Scope} {x : Str} {es : X} {l : List Expr} {q p r : Pos} (h1 : sc.names.lookup x = some .cell) (h : Ok es sc (.es l)) : SndS P (.ownC x (.list es)) sc (.s (.Assign [.Name x q] (.List l r) p)) :=
  fun cx C fr A env F S W σ s I L hne => own_ok C F S .cel h (S.cell x h1) I L hne

theorem sndS_setA {sc : Scope} {o : X} {f : Str} {e : X} {t v : Expr} {p pos : Pos} (h1 : Ok o sc (.e t)) (h2 : Ok e sc (.e v)) (h3 : isCompE v = false) : SndS P (.setA o f e) sc (.s (.Assign [.Attribute t f p] v pos)) := by
  intro cx C fr A env F S
  intro W σ s I L hne
  have hev : ex (.setA o f e) cx σ = (ev cx.toCx e σ).bind fun v σ₁ => (ev cx.toCx o σ₁).bind fun vo σ₂ => optS ((cx.setA vo f v σ₂.toHp).map fun H => { σ₂ with toHp := H }) := rfl
  rw [hev] at hne ⊢
  refine plainObj_wpAny_Assign_Attribute (then2p (sound C.base h2 fr A env F.toFm S).1 (sound C.base h1 fr A env F.toFm S).1 I L hne (fun e s' h => h) fun W₂ σ₂ s₂ u w cu cw e₂ st₂ hu hw => ?_) (swaps_none h3 ..)
  rw [e₂] at hne ⊢
  cases hp : cx.setA w f u σ₂.toHp with
  | none => rw [hp] at hne; exact absurd rfl hne
  | some Hn => exact C.setA fr A env F.toFm W₂ σ₂ s₂ st₂.inv st₂.loc w f u cw cu Hn hw hu hp _ _ fun W₃ s₃ st₃ => ⟨_, _, W₃, rfl, st₂.trans st₃, .next⟩
end
end Mine
end
noncomputable section
set_option Elab.async false
set_option linter.all false
set_option maxRecDepth 100000
namespace Mine
open PySem PySem.W PyProof.Rows

section
variable {P : Par} {fr : List Nat} {A : Around} {env : Env} {W W' : Wd} {σ σ' : St} {s s' : Shared} {cx : Sx}

theorem augV_ok (I : Inv P fr W σ.toHp s) (L : Loc P env W σ s.heap) {a b : V} {ca cb : Value} (ha : VR W σ.nxt a ca) (hb : VR W σ.nxt b cb) (hne : (augV a b).st σ ≠ .bad) :
    wpAny P.M A (inplaceOp .Add ca cb) (Post P fr env W σ s ((augV a b).st σ)) NoE s := by
  have hne' : augV a b ≠ .bad := fun q => hne (by rw [q]; rfl)
  obtain ⟨x, e1⟩ := elim_ok hne'
  obtain rfl := strOf_some e1
  obtain ⟨y, e2⟩ := elim_ok (show (strOf b).elim Ov.bad _ ≠ .bad from hne')
  obtain rfl := strOf_some e2
  have hx := ha.strLe
  have hy := hb.strLe
  by_cases hsz : x.length + y.length ≤ sizeLine
  · have e : augV (.str x) (.str y) = .ok (.str (x ++ y)) := if_pos hsz
    rw [e]
    obtain ⟨t, rfl, _, hx'⟩ := ha.inv_str
    obtain ⟨u, rfl, _, hy'⟩ := hb.inv_str
    refine PySem.P.iadd_str ?_
    split
    · rename_i h; exact post_ok rfl (Step.refl I L) (by rw [str_nil_l h]; exact .str _ _ hy hy')
    · split
      · rename_i h; exact post_ok rfl (Step.refl I L) (by rw [str_nil_r h]; exact .str _ _ hx hx')
      · have hl : (x ++ y).length ≤ sizeLine := by show (x.cps ++ y.cps).size ≤ _; rw [Array.size_append]; exact hsz
        exact ⟨hl, post_ok rfl (Step.toks I L _) (.str _ _ hl (strOk_append hx' hy'))⟩
  · exact absurd (if_neg hsz) hne'

theorem sndS_aug {sc : Scope} {x : Str} {e : X} {v : Expr} {p pos : Pos} (h3 : sc.names.lookup x = some .local) (h4 : Ok e sc (.e v)) : SndS P (.aug x .Add e) sc (.s (.AugAssign (.Name x p) .Add v pos)) := by
  intro cx C fr A env F S
  have hk := S.loc x h3
  intro W σ s I L hne
  have hev : ex (.aug x .Add e) cx σ = (ev cx.toCx (.var x) σ).bind fun u σ₀ => (ev cx.toCx e σ₀).bind fun v σ₁ => ((augV u v).st σ₁).bind fun r σ₂ => .ok .next (σ₂.set x r) := rfl
  rw [hev] at hne ⊢
  have Jx : OkE P fr A env (loadName env x) (ev cx.toCx (.var x)) := fun W σ s I L hne => by
    have hev : ev cx.toCx (.var x) σ = (match σ.loc.lookup x with | some v => .ok v σ | Option.none => .bad) := rfl
    rw [hev] at hne ⊢
    split at hne
    · rename_i v hv
      obtain ⟨m, hn, hl⟩ := L.loc
      obtain ⟨_, c, hm, hr⟩ := hl x v hv
      exact wpAny_loadName_local L.kind hk hn hm (post_ok rfl (Step.refl I L) hr)
    · exact absurd rfl hne
  refine wpAny_AugAssign_Name (then2p Jx (sound C.base h4 fr A env F.toFm S).1 I L hne (fun e s' h => h) fun W₂ σ₂ s₂ u w cu cw e₂ st₂ hu hw => ?_)
  rw [e₂] at hne ⊢
  refine wpAny_mono (augV_ok st₂.inv st₂.loc hu hw (Rs.bind_ne hne)) (fun c s₃ ⟨r, σ₃, W₃, e₃, st₃, hr⟩ => ?_) (fun e s' h => h.elim)
  rw [Rs.bind_ok e₃] at hne ⊢
  exact store_ok F st₃.inv st₃.loc hk hr fun s₄ st₄ => ⟨_, _, W₃, rfl, (st₂.trans st₃).trans st₄, .next⟩

theorem condS_ne {v : V} {σ : St} {t e : St → Rs Fl} (h : condS v σ t e ≠ .bad) : (truV σ.toHp v = some true ∧ condS v σ t e = t σ) ∨ (truV σ.toHp v = some false ∧ condS v σ t e = e σ) := by
  unfold condS at h ⊢
  revert h
  split <;> intro h
  · rename_i q; exact .inl ⟨q, rfl⟩
  · rename_i q; exact .inr ⟨q, rfl⟩
  · exact absurd rfl h

theorem cond_tr {c : Cx} {e : X} {t f : St → Rs Fl} {σ : St} (h : ((ev c e σ).bind fun v σ₁ => condS v σ₁ t f) ≠ .bad) : tr (ev c e) σ ≠ .bad := by
  cases hf : ev c e σ with
  | ok v σ₁ =>
    rw [hf] at h
    rw [tr_eq hf]
    rcases condS_ne (h : condS v σ₁ _ _ ≠ .bad) with ⟨q, _⟩ | ⟨q, _⟩ <;> rw [truRs_some q] <;> intro q' <;> cases q'
  | bad => rw [hf] at h; exact absurd rfl h

theorem sndS_ite {sc : Scope} {c : X} {a b : S} {t : Expr} {x y : List Stmt} {pos : Pos} (h1 : Ok c sc (.e t)) (ia : SndS P a sc (.l x)) (ib : SndS P b sc (.l y)) : SndS P (.ite c a b) sc (.s (.If t x y pos)) := by
  intro cx C fr A env F S
  have Ja := ia cx C fr A env F S
  have Jb := ib cx C fr A env F S
  intro W σ s I L hne
  have hev : ex (.ite c a b) cx σ = (ev cx.toCx c σ).bind fun v σ₁ => condS v σ₁ (ex a cx) (ex b cx) := rfl
  rw [hev] at hne ⊢
  refine wpAny_If (thenT (sound C.base h1 fr A env F.toFm S).2 I L (cond_tr hne) fun bb v σ' W' s' e hb st => ?_)
  rw [Rs.bind_ok e] at hne ⊢
  cases bb with
  | true =>
    rw [if_pos rfl]
    have r : condS v σ' (ex a cx) (ex b cx) = ex a cx σ' := by unfold condS; rw [hb]
    rw [r] at hne ⊢
    exact wpAny_mono (Ja W' σ' s' st.inv st.loc hne) (fun c s' h => h.after st) fun e s' h => h.after st
  | false =>
    rw [if_neg (by decide)]
    have r : condS v σ' (ex a cx) (ex b cx) = ex b cx σ' := by unfold condS; rw [hb]
    rw [r] at hne ⊢
    exact wpAny_mono (Jb W' σ' s' st.inv st.loc hne) (fun c s' h => h.after st) fun e s' h => h.after st

theorem sndS_assert {sc : Scope} {e : X} {t : Expr} {pos : Pos} (h : Ok e sc (.e t)) : SndS P (.assert e) sc (.s (.Assert t none pos)) := by
  intro cx C fr A env F S
  intro W σ s I L hne
  have hev : ex (.assert e) cx σ = (ev cx.toCx e σ).bind fun v σ₁ => condS v σ₁ (fun σ₁ => .ok .next σ₁) (fun _ => .bad) := rfl
  rw [hev] at hne ⊢
  have J := (sound C.base h fr A env F.toFm S).2
  refine wpAny_Assert_holds (thenT J I L (cond_tr hne) fun bb v σ' W' s' e hb st => ?_)
  rw [Rs.bind_ok e] at hne ⊢
  cases bb with
  | true => exact ⟨rfl, _, σ', W', by unfold condS; rw [hb], st, .next⟩
  | false =>
    have r : condS v σ' (fun σ₁ => Rs.ok Fl.next σ₁) (fun _ => .bad) = .bad := by unfold condS; rw [hb]
    exact absurd r hne
end
end Mine
end
noncomputable section
set_option Elab.async false
set_option linter.all false
set_option maxRecDepth 100000
namespace Mine
open PySem PySem.W PyProof.Rows

section
variable {P : Par} {fr : List Nat} {A : Around} {env : Env} {W W' : Wd} {σ σ' : St} {s s' : Shared} {cx : Sx}

theorem while_ok {c : St → Rs Bool} {b o : St → Rs Fl} {test : Expr} {body orelse : List Stmt} (hc : OkB P fr A env (isTrue test env (eval test env)) c) (hb : OkS P fr A env (execs body env) b) (ho : OkS P fr A env (execs orelse env) o)
    (n : Nat) (I : Inv P fr W σ.toHp s) (L : Loc P env W σ s.heap) (hne : whileF c b o n σ ≠ .bad) {pos : Pos} :
    wpAny P.M A (exec (.While test body orelse pos) env) (PostF P fr env W σ s (whileF c b o n σ)) NoE s := by
  refine wpAny_While ?_
  generalize hr : whileF c b o n σ = r at hne
  refine codeAny_whileLoop (fun k s' => ∃ W' σ', Step P fr env W σ s W' σ' s' ∧ whileF c b o k σ' = r) ?_ n ⟨W, σ, Step.refl I L, hr⟩
  rintro k s₁ ⟨W₁, σ₁, st₁, h₁⟩
  cases k with
  | zero => exact absurd (h₁.symm.trans rfl) hne
  | succ k =>
    unfold whileF at h₁
    have hcne : c σ₁ ≠ .bad := by intro q; rw [q] at h₁; exact hne h₁.symm
    refine wpAny_mono (hc W₁ σ₁ s₁ st₁.inv st₁.loc hcne) (fun bb s₂ ⟨σ₂, W₂, e₂, st₂⟩ => ?_) (fun e s' h => h.elim)
    rw [e₂] at h₁
    have st := st₁.trans st₂
    cases bb with
    | true =>
      rw [if_pos rfl]
      dsimp only at h₁
      have hbne : b σ₂ ≠ .bad := by intro q; rw [q] at h₁; exact hne h₁.symm
      refine wpAny_mono (hb W₂ σ₂ s₂ st.inv st.loc hbne) (fun f s₃ ⟨fl, σ₃, W₃, e₃, st₃, hf⟩ => ?_) (fun e s' h => h.elim)
      rw [e₃] at h₁
      cases hf with
      | next => exact ⟨k, Nat.lt_succ_self _, W₃, σ₃, st.trans st₃, h₁⟩
      | brk => exact ⟨_, σ₃, W₃, h₁.symm, st.trans st₃, .next⟩
      | ret hv => exact ⟨_, σ₃, W₃, h₁.symm, st.trans st₃, .ret hv⟩
    | false =>
      rw [if_neg (by decide)]
      dsimp only at h₁
      refine wpAny_mono (ho W₂ σ₂ s₂ st.inv st.loc (by rw [h₁]; exact hne)) (fun f s₃ hf => ?_) (fun e s' h => h.elim)
      rw [← h₁]
      exact hf.after st

theorem sndS_loop {sc : Scope} {n : Nat} {c : X} {b o : S} {t : Expr} {x y : List Stmt} {pos : Pos} (h1 : Ok c sc (.e t)) (ib : SndS P b sc (.l x)) (io : SndS P o sc (.l y)) : SndS P (.loop n c b o) sc (.s (.While t x y pos)) :=
  fun cx C fr A env F S W σ s I L hne => while_ok (sound C.base h1 fr A env F.toFm S).2 (ib cx C fr A env F S) (io cx C fr A env F S) n I L hne

theorem each_its {v : V} {all : List V} {x : Str} {b : St → Rs Fl} {l : List V} {σ : St} (h : eachF v all x b l σ ≠ .bad) : itsV σ.toHp v = some all := by
  cases l <;> (unfold eachF at h; split at h) <;> first | assumption | exact absurd rfl h

theorem each_ok {b : St → Rs Fl} {x : Str} {body : List Stmt} (hh : A.handled = none) (F : FmS P cx.lvl fr A env) (hx : env.kindOf x = some .local) (hb : OkS P fr A env (execs body env) b) {v : V} {cv : Value} {xs : List V} (hv : VR W σ.nxt v cv)
    (I : Inv P fr W σ.toHp s) (L : Loc P env W σ s.heap) (hne : eachF v xs x b xs σ ≠ .bad) {E : Value → Shared → Prop} {px : Pos} :
    wpAny P.M A (pyIter cv) (fun it s₂ => codeAny P.M A (.forLoop (.Name x px) it body [] env) (fun r s' => match r with | .ok f => PostF P fr env W σ s (eachF v xs x b xs σ) f s' | .error e => cameBackBy P.M A env E e s') s₂) E s := by
  have hits := each_its hne
  generalize hr : eachF v xs x b xs σ = r at hne
  refine iter_start I hv hits fun ob hit => ?_
  have nI : s.heap.get? s.heap.objs.size = none := size_new _
  have oI : Out P fr W σ.nxt s.heap.objs.size := Out.new I nI
  have st₀ : Step P fr env W σ s W σ { s with heap := s.heap.push ob } := Step.push I L _ rfl rfl rfl
  generalize hIa : s.heap.objs.size = Ia at hit nI oI
  refine codeAny_forLoop (fun k s' => ∃ W' σ' j, k = xs.length + 1 - j ∧ j ≤ xs.length ∧ Step P fr env W σ s W' σ' s' ∧ Out P fr W' σ'.nxt Ia ∧ ItAt W' σ'.nxt s'.heap Ia v j ∧ eachF v xs x b (xs.drop j) σ' = r) ?_ (xs.length + 1) ⟨W, σ, 0, rfl, Nat.zero_le _, st₀, oI, hit, hr⟩
  rintro k s₁ ⟨W₁, σ₁, j, rfl, hj, st₁, o₁, it₁, h₁⟩
  have hits₁ : itsV σ₁.toHp v = some xs := each_its (b := b) (x := x) (l := xs.drop j) (by rw [h₁]; exact hne)
  cases hxj : xs[j]? with
  | none =>
    have hd : xs.drop j = [] := List.drop_of_length_le (List.getElem?_eq_none_iff.mp hxj)
    rw [hd] at h₁
    unfold eachF at h₁
    rw [if_pos hits₁] at h₁
    refine iter_end hh st₁.inv it₁ hits₁ hxj fun h' hk => wpAny_execs_nil ?_
    refine ⟨_, σ₁, W₁, h₁.symm, st₁.aside F.hL nI o₁ (fun b o hb e => hk b o hb e) rfl rfl, .next⟩
  | some y =>
    have hlt : j < xs.length := (List.getElem?_eq_some_iff.mp hxj).1
    have hd : xs.drop j = y :: xs.drop (j + 1) := by
      rw [List.drop_eq_getElem_cons hlt, (List.getElem?_eq_some_iff.mp hxj).2]
    rw [hd] at h₁
    unfold eachF at h₁
    rw [if_pos hits₁] at h₁
    refine iter_next st₁.inv it₁ hits₁ hxj fun c h₂ t₂ hvc hit₂ hs₂ => ?_
    have st₂ : Step P fr env W σ s W₁ σ₁ { s₁ with heap := h₂, toks := t₂ } := st₁.aside F.hL nI o₁ (fun b o hb e => (hs₂.2 b hb).trans e) rfl rfl
    refine wpAny_assign_Name (store_ok F st₂.inv st₂.loc hx hvc fun s₃ st₃ => ?_)
    have st₃' := st₂.trans st₃
    obtain ⟨oI₂, eI₂⟩ := hit₂.there
    have hIL : Ia ≠ env.locals := fun q => o₁.notFr (q ▸ F.hL)
    have o₃ : Out P fr W₁ (σ₁.set x y).nxt Ia := o₁
    have it₃ : ItAt W₁ σ₁.nxt s₃.heap Ia v (j + 1) := hit₂.mono (.refl ..) (Nat.le_refl _) fun o e => st₃.nx.ext Ia o e hIL o₁.notFr o₁.notOwn
    have hbne : b (σ₁.set x y) ≠ .bad := by intro q; rw [q] at h₁; exact hne h₁.symm
    refine wpAny_mono (hb W₁ (σ₁.set x y) s₃ st₃.inv st₃.loc hbne) (fun f s₄ ⟨fl, σ₄, W₄, e₄, st₄, hf⟩ => ?_) (fun e s' h => h.elim)
    rw [e₄] at h₁
    obtain ⟨oI₃, eI₃⟩ := it₃.there
    have st₅ := st₃'.trans st₄
    have o₄ := o₃.step eI₃ st₄.nx
    have it₄ : ItAt W₄ σ₄.nxt s₄.heap Ia v (j + 1) := it₃.mono st₄.nx.wle st₄.nx.le fun o e => st₄.nx.ext Ia o e hIL o₃.notFr o₃.notOwn
    cases hf with
    | next => exact ⟨xs.length + 1 - (j + 1), by omega, W₄, σ₄, j + 1, rfl, hlt, st₅, o₄, it₄, h₁⟩
    | brk => exact ⟨_, σ₄, W₄, h₁.symm, st₅, .next⟩
    | ret hv => exact ⟨_, σ₄, W₄, h₁.symm, st₅, .ret hv⟩

theorem sndS_each {sc : Scope} {x : Str} {it : X} {b : S} {i : Expr} {z : List Stmt} {px pos : Pos} (h1 : sc.names.lookup x = some .local) (h2 : Ok it sc (.e i)) (ib : SndS P b sc (.l z)) (h4 : isSetE i = false) : SndS P (.each x it b) sc (.s (.For (.Name x px) i z [] pos)) := by
  intro cx C fr A env F S
  intro W σ s I L hne
  have hh : A.handled = none := F.handled
  have hev : ex (.each x it b) cx σ = (ev cx.toCx it σ).bind fun v σ₁ => match itsV σ₁.toHp v with
      | some xs => eachF v xs x (ex b cx) xs σ₁
      | none => .bad := rfl
  rw [hev] at hne ⊢
  refine wpAny_For (then1p (sound C.base h2 fr A env F.toFm S).1 I L hne (fun e s' h => h) fun v cv W₁ σ₁ s₁ e₁ st₁ hv => ?_) (not_set h4)
  rw [Rs.bind_ok e₁] at hne ⊢
  revert hne
  split <;> intro hne
  · rename_i xs hxs
    refine wpAny_mono (each_ok (E := NoE) hh F (S.loc x h1) (ib cx C fr A env F S) hv st₁.inv st₁.loc hne) (fun it s₂ h => codeAny_mono h fun r s' hr => ?_) fun _ _ e => e
    cases r with
    | ok f => exact PostF.after st₁ hr
    | error e => exact hr
  · exact absurd rfl hne
end
end Mine
end
noncomputable section
set_option Elab.async false
set_option linter.all false
set_option maxRecDepth 100000
namespace Mine
open PySem PySem.W PyProof.Rows

section
variable {P : Par} {fr : List Nat} {A : Around} {env : Env} {W W' : Wd} {σ σ' : St} {s s' : Shared} {cx : Sx}

theorem pair_ne {v : V} {k : V → V → Rs Fl} (h : pairR v k ≠ .bad) : ∃ a b, pairOf v = some [a, b] ∧ pairR v k = k a b := by
  unfold pairR at h ⊢
  split at h
  · rename_i a b e; exact ⟨a, b, e, rfl⟩
  · exact absurd rfl h
/-- two items can be drawn from it -/
theorem pair_at (hh : A.handled = none) (I : Inv P fr W σ.toHp s) (L : Loc P env W σ s.heap) {v a b : V} {c : Value} (h : VR W σ.nxt v c) (e : pairOf v = some [a, b]) : ∃ t ca cb, c = .ref t ∧ VR W σ.nxt a ca ∧ VR W σ.nxt b cb ∧
    ∀ {E : Value → Shared → Prop} {Q : List Value → Shared → Prop}, (∀ s', Step P fr env W σ s W σ s' → Q [ca, cb] s') → wpAny P.M A (unpackItems (.ref t) 2 none) Q E s := by
  have gr : ∀ {h' : Heap}, Heap.ExtBut s.heap.objs.size s.heap h' → Step P fr env W σ s W σ { s with heap := h' } := fun hx =>
    Step.grow I L (fun b o e => hx b o (Nat.ne_of_lt (Heap.lt_size e)) e) rfl rfl
  cases h with
  | tup h1 h2 h3 h4 h5 =>
    cases e
    rename_i t o items e
    obtain ⟨l⟩ := items
    obtain ⟨ca, cb, e2, x, y⟩ := VRs.inv2 h5
    have e3 : l = [ca, cb] := e2
    subst e3
    exact ⟨t, ca, cb, rfl, x, y, fun hQ => unpackItems_tuple (items := #[ca, cb]) hh ⟨o, (I.frz _ _ h1).1, h2, e, h3⟩ fun h' hx => hQ _ (gr hx)⟩
  | list h1 h2 h3 h4 h5 h6 =>
    cases e
    rename_i t o items e
    obtain ⟨l⟩ := items
    obtain ⟨ca, cb, e2, x, y⟩ := VRs.inv2 h5
    have e3 : l = [ca, cb] := e2
    subst e3
    exact ⟨t, ca, cb, rfl, x, y, fun hQ => kun_itemsOf (items := #[ca, cb]) hh ⟨o, (I.frz _ _ h1).1, h2, e, h3⟩ fun h' hx => hQ _ (gr hx)⟩
  | _ => cases e
theorem asg2_plain {x y : Str} {f : St → Rs V} {q₁ q₂ q p : Pos} {k : Nat} {v : Expr} (F : FmS P cx.lvl fr A env) (hx : env.kindOf x = some .local) (hy : env.kindOf y = some .local) (J : OkE P fr A env (eval v env) f)
    (hsw : swapsWithSole [.Tuple [.Name x q₁, .Name y q₂] k q] v p.line env = pure false) (hw : swappedStores [.Tuple [.Name x q₁, .Name y q₂] k q] v env = pure none) :
    OkS P fr A env (exec (.Assign [.Tuple [.Name x q₁, .Name y q₂] k q] v p) env) (fun σ => (f σ).bind fun v σ₁ => pairR v fun a b => .ok .next ((σ₁.set x a).set y b)) := by
  intro W σ s I L hne
  refine Assign_Tuple (then1p J I L hne (fun e s' h => h) fun u c W₁ σ₁ s₁ e₁ st₁ hv => ?_) hsw hw
  dsimp only at hne
  rw [Rs.bind_ok e₁] at hne
  have hb := Rs.bind_ok (f := fun v σ₁ => pairR v fun a b => Rs.ok Fl.next ((σ₁.set x a).set y b)) e₁
  obtain ⟨a, b, hp, hr⟩ := pair_ne hne
  obtain ⟨t, ca, cb, rfl, ha, hb', hU⟩ := pair_at F.handled st₁.inv st₁.loc hv hp
  rw [assign_Tuple]
  refine wpAny_bind (wpAny_standAt ?_)
  unfold unpack
  refine wpAny_bind (wpAny_holding (hU fun s₂ st₂ => ?_))
  show wpAny P.M A (do holding [cb] (assign (.Name x q₁) env ca); (do holding [] (assign (.Name y q₂) env cb); pure ())) _ _ _
  refine wpAny_bind (wpAny_holding (wpAny_assign_Name (store_ok F st₂.inv st₂.loc hx ha fun s₃ st₃ => ?_)))
  refine wpAny_bind (wpAny_holding (wpAny_assign_Name (store_ok F st₃.inv st₃.loc hy hb' fun s₄ st₄ => ?_)))
  exact wpAny_pure ⟨_, _, W₁, hb.trans hr, ((st₁.trans st₂).trans st₃).trans st₄, .next⟩
theorem sndS_asg2 {sc : Scope} {x y : Str} {e : X} {q₁ q₂ q p r : Pos} {k : Nat} {g : Expr} {as : List Expr} {ks : List Keyword} (h1 : sc.names.lookup x = some .local) (h2 : sc.names.lookup y = some .local) (h : Ok e sc (.e (.Call g as ks r))) :
    SndS P (.asg2 x y e) sc (.s (.Assign [.Tuple [.Name x q₁, .Name y q₂] k q] (.Call g as ks r) p)) := fun cx C fr A env F S =>
  asg2_plain F (S.loc x h1) (S.loc y h2) (sound C.base h fr A env F.toFm S).1 (by unfold swapsWithSole; rfl) rfl

theorem Step.swap {x y : Str} {a b : V} (hxy : x ≠ y) (st : Step P fr env W σ s W' ((σ'.set y b).set x a) s') : Step P fr env W σ s W' ((σ'.set x a).set y b) s' := by
  refine ⟨st.nx, st.inv, ⟨st.loc.kind, st.loc.glob, st.loc.bns, ?_, st.loc.cel, st.loc.cod⟩⟩
  obtain ⟨m, h1, h2⟩ := st.loc.loc
  refine ⟨m, h1, fun z v hz => h2 z v ?_⟩
  have hz' : (setL y b (setL x a σ'.loc)).lookup z = some v := hz
  show (setL x a (setL y b σ'.loc)).lookup z = some v
  rw [lookup_setL, lookup_setL] at hz' ⊢
  by_cases h1 : z = x
  · subst h1; rw [if_pos rfl]; rw [if_neg hxy, if_pos rfl] at hz'; exact hz'
  · rw [if_neg h1]
    by_cases h2 : z = y
    · rw [if_pos h2] at hz' ⊢; exact hz'
    · rw [if_neg h2] at hz' ⊢; rw [if_neg h1] at hz'; exact hz'

theorem swapped_at {env : Env} {x y : Str} {q₁ q₂ q ap r cp : Pos} {k k' n : Nat} {o : Expr} {c : Const} {f : Str} (h4 : x ≠ y) (h5 : q₁.line = q₂.line) (hbk : env.blockKind = .function) (hx : env.kindOf x = some .local) (hy : env.kindOf y = some .local) :
    swappedStores [.Tuple [.Name x q₁, .Name y q₂] k q] (.Tuple [.Attribute o f ap, .Constant c n cp] k' r) env = pure (some [x, y]) := by
  have hdup : ([x, y] : List Str).eraseDups.length = 2 := by
    have hb : (y == x) = false := by simpa using Ne.symm h4
    simp [List.eraseDups_cons, hb]
  have k0 : (env.kindOf x == some NameKind.local && q₁.line == q₁.line) = true := by rw [hx]; simp
  have k1 : (env.kindOf y == some NameKind.local && q₂.line == q₁.line) = true := by rw [hy]; simp [h5]
  have hm : ∀ g : Expr → Option Str, g (.Name x q₁) = some x → g (.Name y q₂) = some y → [Expr.Name x q₁, .Name y q₂].filterMap g = [x, y] := fun g e1 e2 => by
    rw [List.filterMap_cons_some e1, List.filterMap_cons_some e2]; rfl
  delta swappedStores
  show (if (!([Expr.Name x q₁, .Name y q₂].length == 2 || [Expr.Name x q₁, .Name y q₂].length == 3) || [Expr.Attribute o f ap, .Constant c n cp].length != [Expr.Name x q₁, .Name y q₂].length || env.blockKind != .function) = true then _ else _) = _
  rw [hbk]
  refine (if_neg (fun q => Bool.noConfusion (show false = true from q))).trans ?_
  refine (if_neg (fun q => Bool.noConfusion (show false = true from q))).trans ?_
  dsimp only
  rw [hm _ (if_pos k0) (if_pos k1), hdup]
  rfl
theorem asg2_swapped {x y : Str} {f : St → Rs V} {q₁ q₂ q p : Pos} {k : Nat} {v : Expr} (F : FmS P cx.lvl fr A env) (hx : env.kindOf x = some .local) (hy : env.kindOf y = some .local) (hxy : x ≠ y) (J : OkE P fr A env (eval v env) f)
    (hsw : swapsWithSole [.Tuple [.Name x q₁, .Name y q₂] k q] v p.line env = pure false) (hw : swappedStores [.Tuple [.Name x q₁, .Name y q₂] k q] v env = pure (some [x, y])) :
    OkS P fr A env (exec (.Assign [.Tuple [.Name x q₁, .Name y q₂] k q] v p) env) (fun σ => (f σ).bind fun v σ₁ => pairR v fun a b => .ok .next ((σ₁.set x a).set y b)) := by
  intro W σ s I L hne
  refine Assign_Tuple_swapped (names := [x, y]) (then1p J I L hne (fun e s' h => h) fun u c W₁ σ₁ s₁ e₁ st₁ hv => ?_) hsw hw
  dsimp only at hne
  rw [Rs.bind_ok e₁] at hne
  have hb := Rs.bind_ok (f := fun v σ₁ => pairR v fun a b => Rs.ok Fl.next ((σ₁.set x a).set y b)) e₁
  obtain ⟨a, b, hp, hr⟩ := pair_ne hne
  obtain ⟨t, ca, cb, rfl, ha, hb', hU⟩ := pair_at F.handled st₁.inv st₁.loc hv hp
  refine hU fun s₂ st₂ => ?_
  show wpAny P.M A (do holding [ca] (bindName env y cb); (do holding [] (bindName env x ca); pure ())) _ _ _
  refine wpAny_bind (wpAny_holding (bindName_ (store_ok F st₂.inv st₂.loc hy hb' fun s₃ st₃ => ?_)))
  refine wpAny_bind (wpAny_holding (bindName_ (store_ok F st₃.inv st₃.loc hx ha fun s₄ st₄ => ?_)))
  exact wpAny_pure ⟨_, _, W₁, hb.trans hr, Step.swap hxy (((st₁.trans st₂).trans st₃).trans st₄), .next⟩

theorem sndS_asg2s {sc : Scope} {x y : Str} {e : X} {q₁ q₂ q p ap r cp : Pos} {k k' n : Nat} {o : Expr} {c : Const} {f : Str} (h1 : sc.names.lookup x = some .local) (h2 : sc.names.lookup y = some .local) (h : Ok e sc (.e (.Tuple [.Attribute o f ap, .Constant c n cp] k' r))) (h4 : (x != y && q₁.line == q₂.line) = true) :
    SndS P (.asg2 x y e) sc (.s (.Assign [.Tuple [.Name x q₁, .Name y q₂] k q] (.Tuple [.Attribute o f ap, .Constant c n cp] k' r) p)) := by
  intro cx C fr A env F S
  simp only [Bool.and_eq_true, bne_iff_ne, beq_iff_eq] at h4
  intro W σ s I L hne
  have hbk : env.blockKind = .function := by unfold Env.blockKind; rw [L.kind]; rfl
  exact asg2_swapped F (S.loc x h1) (S.loc y h2) h4.1 (sound C.base h fr A env F.toFm S).1 (by unfold swapsWithSole; rfl) (swapped_at h4.1 h4.2 hbk (S.loc x h1) (S.loc y h2)) W σ s I L hne
end
end Mine
end
noncomputable section
set_option Elab.async false
set_option linter.all false
set_option maxRecDepth 100000
namespace Mine
open PySem PySem.W PyProof.Rows

section
variable {P : Par} {fr : List Nat} {A : Around} {env : Env} {W W' : Wd} {σ σ' : St} {s s' : Shared} {cx : Sx}

theorem soundS {st : S} {sc : Scope} {pt : Pt} (h : TieS st sc pt) : SndS P st sc pt := by
  induction h with
  | brk => exact sndS_brk
  | expr a b => exact sndS_expr a b
  | asg a b c => exact sndS_asg a b c
  | asgC a b c => exact sndS_asgC a b c
  | own a b => exact sndS_own a b
  | ownC a b => exact sndS_ownC a b
  | setA a b c => exact sndS_setA a b c
  | aug a b => exact sndS_aug a b
  | ret a => exact sndS_ret a
  | ite a _ _ b c => exact sndS_ite a b c
  | loop a _ _ b c => exact sndS_loop a b c
  | each a b _ c d => exact sndS_each a b d c
  | assert a => exact sndS_assert a
  | nil => exact sndS_nil
  | seq _ _ a b => exact sndS_seq a b
  | asg2 a b c => exact sndS_asg2 a b c
  | asg2s a b c d => exact sndS_asg2s a b c d
end
end Mine
end
noncomputable section
set_option Elab.async false
set_option linter.all false
set_option maxRecDepth 100000
namespace Mine
open PySem PySem.W PyProof.Rows

/-! ## a def's frame -/
noncomputable def Hp.add (H : Hp) (o : O) : Hp := { obj := fun k => if k = H.nxt then some o else H.obj k, nxt := H.nxt + 1 }
noncomputable def cellsH (bv : List (Str × V)) : List (Str × NameKind) → Hp → List (Str × Nat) → Hp × List (Str × Nat)
  | [], H, c => (H, c)
  | (x, k) :: r, H, c => if k == .cell then cellsH bv r (H.add (.cell (bv.lookup x))) ((x, H.nxt) :: c) else cellsH bv r H c
noncomputable def fnShape (sc : Scope) (ps : List Str) : Bool := sc.kind == .function && !sc.isCoroutine && !sc.isGenerator && keyed sc.names && sc.names.all (fun p => p.2 != .free) && distinct ps && ps.all (fun x => sc.names.lookup x == some .local || sc.names.lookup x == some .cell)
noncomputable def retR (f : Fl) (σ : St) : Rs V := match f with
  | .ret v => .ok v σ
  | .next => .ok .none σ
  | _ => .bad
noncomputable def entry (sc : Scope) (bv : List (Str × V)) (H : Hp) : St := { toHp := (cellsH bv sc.names H []).1, loc := bv.filter (fun p => sc.names.lookup p.1 == some .local), cel := (cellsH bv sc.names H []).2 }
/-- a frame at its start, with the table of its nested code -/
noncomputable def entryT (tb : Option Str) (sc : Scope) (bv : List (Str × V)) (H : Hp) : St := { entry sc bv H with tbl := tb.map fun q => (0, q) }
noncomputable def runFn (sc : Scope) (ps : List Str) (b : S) (tb : Option Str) (cx : Sx) (args : List V) (H : Hp) : Rs V :=
  if args.length = ps.length then (ex b cx (entryT tb sc (ps.zip args) H)).bind retR else .bad

/-- two ways to look a name up agree -/
noncomputable def Ro (W : Wd) (n : Nat) : Option V → Option Value → Prop
  | some v, some c => VR W n v c
  | none, none => True
  | _, _ => False

theorem zip_rel {W : Wd} {n : Nat} (x : Str) : ∀ (ps : List Str) {args : List V} {cs : List Value}, VRs W n args cs → Ro W n ((ps.zip args).lookup x) ((ps.zip cs).lookup x)
  | [], _, _, _ => by simp [Ro]
  | p :: ps, _, _, .nil => by simp [Ro]
  | p :: ps, _, _, .cons h r => by
    simp only [List.zip_cons_cons, List.lookup]
    cases x == p with
    | true => exact h
    | false => exact zip_rel x ps r

theorem lookup_zip_none {α : Type} {x : Str} : ∀ {ps : List Str} {cs : List α}, ps.all (fun y => y != x) = true → (ps.zip cs).lookup x = none
  | [], _, _ => by simp
  | p :: ps, [], _ => by simp
  | p :: ps, c :: cs, h => by
    simp only [List.all_cons, Bool.and_eq_true, bne_iff_ne, ne_eq] at h
    simp only [List.zip_cons_cons, List.lookup]
    rw [show (x == p) = false from by simpa using fun q => h.1 q.symm]
    exact lookup_zip_none h.2

theorem bindL_at {kd : Str → Option NameKind} {x : Str} : ∀ {ps : List Str} {cs : List Value} {m : Str → Option Value}, distinct ps = true → bindL kd (ps.zip cs) m x = if kd x = some .local then ((ps.zip cs).lookup x).or (m x) else m x
  | [], cs, m, _ => by simp [bindL]
  | p :: ps, [], m, _ => by simp [bindL]
  | p :: ps, c :: cs, m, h => by
    simp only [distinct, Bool.and_eq_true] at h
    simp only [List.zip_cons_cons, bindL]
    rw [bindL_at h.2]
    simp only [List.lookup]
    by_cases hx : x = p
    · subst hx
      rw [lookup_zip_none h.1]
      by_cases hk : kd x = some .local
      · simp [hk]
      · simp [hk]
    · rw [show (x == p) = false from by simpa using hx]
      by_cases hk : kd x = some .local
      · simp only [hk, if_true]
        congr 1
        by_cases hp : kd p = some .local
        · simp [hp, hx]
        · simp [hp]
      · simp only [hk, if_false]
        by_cases hp : kd p = some .local
        · simp [hp, hx]
        · simp [hp]

theorem bindC_at {kd : Str → Option NameKind} {x : Str} (hk : kd x ≠ some .local) : ∀ {ps : List Str} {cs : List Value} {m : Str → Option Value}, distinct ps = true → bindC kd (ps.zip cs) m x = ((ps.zip cs).lookup x).or (m x)
  | [], cs, m, _ => by simp [bindC]
  | p :: ps, [], m, _ => by simp [bindC]
  | p :: ps, c :: cs, m, h => by
    simp only [distinct, Bool.and_eq_true] at h
    simp only [List.zip_cons_cons, bindC]
    rw [bindC_at hk h.2]
    simp only [List.lookup]
    by_cases hx : x = p
    · subst hx
      rw [lookup_zip_none h.1]
      simp [hk]
    · rw [show (x == p) = false from by simpa using hx]
      by_cases hp : kd p = some .local
      · simp [hp]
      · simp [hp, hx]

theorem keyed_lookup {x : Str} {k : NameKind} : ∀ {names : List (Str × NameKind)}, keyed names = true → (x, k) ∈ names → names.lookup x = some k
  | (y, k') :: r, h, hm => by
    simp only [keyed, Bool.and_eq_true] at h
    rcases List.mem_cons.mp hm with q | q
    · cases q; simp [List.lookup]
    · have hne : x ≠ y := by
        have := List.all_eq_true.mp h.1 _ q
        simpa using this
      simp only [List.lookup]
      rw [show (x == y) = false from by simpa using hne]
      exact keyed_lookup h.2 q

theorem mem_of_lookupK {x : Str} {k : NameKind} : ∀ {names : List (Str × NameKind)}, names.lookup x = some k → (x, k) ∈ names
  | [], h => by cases h
  | (y, k') :: r, h => by
    simp only [List.lookup] at h
    cases hq : x == y with
    | true => rw [hq] at h; cases h; rw [show x = y from by simpa using hq]; exact .head _
    | false => rw [hq] at h; exact .tail _ (mem_of_lookupK h)

theorem cells_some {x : Str} : ∀ {names : List (Str × NameKind)} {n : Nat} {acc : List (Str × Addr)}, ((acc.lookup x).isSome = true ∨ (x, NameKind.cell) ∈ names) → ((cellsFrom n names acc).lookup x).isSome = true
  | [], n, acc, h => by
    rcases h with h | h
    · exact h
    · cases h
  | (y, k) :: r, n, acc, h => by
    unfold cellsFrom
    by_cases hk : (k == NameKind.cell) = true
    · rw [if_pos hk]
      refine cells_some ?_
      simp only [List.lookup]
      cases hq : x == y with
      | true => exact .inl rfl
      | false =>
        rcases h with h | h
        · exact .inl h
        · rcases List.mem_cons.mp h with q | q
          · cases q; simp at hq
          · exact .inr q
    · rw [if_neg hk]
      refine cells_some ?_
      rcases h with h | h
      · exact .inl h
      · rcases List.mem_cons.mp h with q | q
        · cases q; exact absurd rfl hk
        · exact .inr q

section
variable {P : Par} {fr : List Nat} {A : Around} {env : Env} {W W' : Wd} {σ σ' : St} {s s' : Shared}

/-- the cells of a frame are ours -/
theorem cells_ok {bv : List (Str × V)} {cm : Str → Option Value} {all : List (Str × Addr)} {L : Nat} (hcell : ∀ x c, (x, c) ∈ all → s'.heap.IsCell c (cm x)) (hrel : ∀ x, Ro W σ.nxt (bv.lookup x) (cm x) ∨ ∀ c, (x, c) ∉ all) :
    ∀ (names : List (Str × NameKind)) (n : Nat) (acc : List (Str × Addr)) (cel : List (Str × Nat)) (H : Hp) (W' : Wd), (∀ p ∈ cellsFrom n names acc, p ∈ all) → Step P fr env W σ s W' { σ with toHp := H } s' → s.heap.get? L = none → L < n → s.heap.objs.size ≤ n →
      Out P fr W' H.nxt L → (∀ a, n ≤ a → Out P fr W' H.nxt a) → (∀ x k, cel.lookup x = some k → k < H.nxt ∧ acc.lookup x = some (W'.ρ k)) →
      ∃ W'', Step P fr env W σ s W'' { σ with toHp := (cellsH bv names H cel).1 } s' ∧ Out P fr W'' (cellsH bv names H cel).1.nxt L ∧ ∀ x k, (cellsH bv names H cel).2.lookup x = some k → k < (cellsH bv names H cel).1.nxt ∧ (cellsFrom n names acc).lookup x = some (W''.ρ k)
  | [], n, acc, cel, H, W', _, st, _, _, _, oL, _, hc => ⟨W', st, oL, hc⟩
  | (x, k) :: r, n, acc, cel, H, W', ha, st, hL, hn, hsz, oL, oa, hc => by
    unfold cellsFrom at ha ⊢
    unfold cellsH
    by_cases hk : (k == NameKind.cell) = true
    · rw [if_pos hk] at ha ⊢
      rw [if_pos hk]
      have hsub : ∀ (names : List (Str × NameKind)) (m : Nat) (ac : List (Str × Addr)), ∀ p ∈ ac, p ∈ cellsFrom m names ac := by
        intro names
        induction names with
        | nil => exact fun _ _ _ h => h
        | cons hd tl ih =>
          intro m ac p h
          obtain ⟨y, ky⟩ := hd
          unfold cellsFrom
          split
          · exact ih _ _ _ (.tail _ h)
          · exact ih _ _ _ h
      have hm : (x, n) ∈ all := ha _ (hsub _ _ _ _ (.head _))
      obtain ⟨ob, e1, d1⟩ := hcell x n hm
      have hnone : s.heap.get? n = none := Heap.get?_none_of_le hsz
      have wl := W'.add_le H.nxt n
      have hor : OR (W'.add H.nxt n) (H.nxt + 1) (.cell (bv.lookup x)) ob := by
        rcases hrel x with q | q
        · revert q d1
          cases bv.lookup x with
          | none => cases cm x with
            | none => exact fun d1 _ => .nocell d1
            | some _ => exact fun _ q => q.elim
          | some v => cases cm x with
            | none => exact fun _ q => q.elim
            | some c => exact fun d1 q => .cell d1 ((VR.mono st.nx.wle st.nx.le q).mono wl (Nat.le_succ _))
        · exact absurd hm (q n)
      have st₂ := Step.addLate (o := .cell (bv.lookup x)) st hnone e1 (oa n (Nat.le_refl _)) hor
      have ρn : (W'.add H.nxt n).ρ H.nxt = n := by show (if H.nxt = H.nxt then _ else _) = _; rw [if_pos rfl]
      have oth : ∀ a, a ≠ n → Out P fr W' H.nxt a → Out P fr (W'.add H.nxt n) (H.nxt + 1) a := fun a hne o => ⟨o.notB, o.notFr, o.notFz, fun j hj => by
        rcases Nat.lt_succ_iff_lt_or_eq.mp hj with h | h
        · rw [wl.ρ j h]; exact o.notOwn j h
        · subst h; rw [ρn]; exact Ne.symm hne⟩
      refine cells_ok hcell hrel r (n + 1) ((x, n) :: acc) ((x, H.nxt) :: cel) (H.add (.cell (bv.lookup x))) (W'.add H.nxt n) ha st₂ hL (by omega) (by omega) (oth L (Nat.ne_of_lt hn) oL) (fun a h => oth a (by omega) (oa a (by omega))) fun y j hj => ?_
      simp only [List.lookup] at hj ⊢
      cases hq : y == x with
      | true => rw [hq] at hj; cases hj; exact ⟨Nat.lt_succ_self _, by rw [ρn]⟩
      | false =>
        rw [hq] at hj
        obtain ⟨p, q⟩ := hc y j hj
        exact ⟨Nat.lt_succ_of_lt p, by rw [wl.ρ j p]; exact q⟩
    · rw [if_neg hk] at ha ⊢
      rw [if_neg hk]
      exact cells_ok hcell hrel r n acc cel H W' ha st hL hn hsz oL oa hc
end
end Mine
end
noncomputable section
set_option Elab.async false
set_option linter.all false
set_option maxRecDepth 100000
namespace Mine
open PySem PySem.W PyProof.Rows

structure FnOk (P : Par) (f : Addr) (fd : FuncData) (ps : List Str) (body : List Stmt) (tb : Option Str) : Prop where
  tab : ∀ q, tb = some q → fd.qualname ++ ".<locals>." ++ Str.ofString "<lambda>" = q ∧ ∃ c, fd.code = .ref c ∧ CodeHd P.B c P.T
  there : ∃ o, P.B.get? f = some o ∧ o.data = .func fd
  lim : P.B.NoLimit
  code : P.B.CodeRec fd.code fd.qualname
  body : fd.body = .stmts body
  clo : fd.closure = []
  glob : fd.globals = mainGlobals
  bns : fd.builtins = builtinsNs
  bind : ∀ s : Shared, (∀ b o, P.B.get? b = some o → s.heap.get? b = some o) → ∀ cargs : List Value, cargs.length = ps.length → BindsTo s fd ⟨cargs, []⟩ (ps.zip cargs)
  shape : fnShape fd.scope ps = true

section
variable {P : Par} {fr : List Nat} {A : Around} {env : Env} {W W' : Wd} {σ σ' : St} {s s' : Shared} {cx : Sx}

theorem call_code {f : Addr} {fd : FuncData} {ps : List Str} {body : List Stmt} {tb : Option Str} (K : FnOk P f fd ps body tb) (C : SxOk P cx) {b : S} (hb : TieS b fd.scope (.l body))
    (F : Fm P (cx.lvl + 1) fr A env) (I : Inv P fr W σ.toHp s) (L : Loc P env W σ s.heap) {args : List V} {cargs : List Value} (ha : VRs W σ.nxt args cargs) (hne : (runFn fd.scope ps b tb cx args σ.toHp).lift σ ≠ .bad) :
    codeAny P.M A (.call (.ref f) ⟨cargs, []⟩) (fun r s' => match r with | .ok (.ret v) => Post P fr env W σ s ((runFn fd.scope ps b tb cx args σ.toHp).lift σ) v s' | .ok _ => False | .error e => NoE e s') s := by
  obtain ⟨o, ho, hd⟩ := K.there
  have ho' := I.keep f o ho
  have hlen : args.length = ps.length := by
    refine Decidable.byContradiction fun q => hne ?_
    unfold runFn; rw [if_neg q]; rfl
  have hrun : runFn fd.scope ps b tb cx args σ.toHp = (ex b cx (entryT tb fd.scope (ps.zip args) σ.toHp)).bind retR := by unfold runFn; rw [if_pos hlen]
  rw [hrun] at hne ⊢
  have hsh := K.shape
  simp only [fnShape, Bool.and_eq_true, beq_iff_eq, Bool.not_eq_true'] at hsh
  obtain ⟨⟨⟨⟨⟨⟨k1, k2⟩, k3⟩, k4⟩, k5⟩, k6⟩, k7⟩ := hsh
  have hclen : cargs.length = ps.length := ha.length.trans hlen
  have hroom : A.depth < recursionLimit := by have := F.depth; omega
  have hkind : ∀ n, ∀ x ∈ ps.zip cargs, fd.scope.names.lookup x.1 = some .local ∨ (fd.scope.names.lookup x.1 = some .cell ∧ ((cellsFrom n fd.scope.names []).lookup x.1).isSome = true) := fun n x hx' => by
    have hp : x.1 ∈ ps := (List.of_mem_zip (a := x.1) (b := x.2) hx').1
    have := List.all_eq_true.mp k7 _ hp
    simp only [Bool.or_eq_true, beq_iff_eq] at this
    rcases this with q | q
    · exact .inl q
    · exact .inr ⟨q, cells_some (.inr (mem_of_lookupK q))⟩
  refine codeAny_call_function hroom ho' hd k2 k3 K.body (K.code.keeps I.keep) (K.bind s I.keep cargs hclen _ _ _ _ ?_)
  rw [K.clo]
  refine wpAny_newFunctionEnv_cells k1 (hkind _) fun env' he s₁ x => ?_
  subst he
  refine ⟨(K.lim.keeps I.keep).keeps x.toInCall.keep, codeAny_func ?_⟩
  obtain ⟨h₁, tk, es, hk₁⟩ := x.done
  generalize hLL : s.heap.objs.size = LL at x
  have hLn : s.heap.get? LL = none := hLL ▸ size_new _
  generalize hce : newEnv fd.scope LL fd.globals (cellsFrom (LL + 1) fd.scope.names []) (fd.qualname ++ ".<locals>.") (some f) fd.code none fd.builtins = cenv at x
  have c1 : cenv.scope = fd.scope := by rw [← hce]; rfl
  have c2 : cenv.locals = LL := by rw [← hce]; rfl
  have c3 : cenv.cells = cellsFrom (LL + 1) fd.scope.names [] := by rw [← hce]; rfl
  have c4 : cenv.globals = mainGlobals := by rw [← hce]; exact K.glob
  have c5 : cenv.builtins = builtinsNs := by rw [← hce]; exact K.bns
  have c6 : cenv.frame = some LL := by rw [← hce]; rfl
  have c7 : ∀ y, cenv.kindOf y = fd.scope.names.lookup y := fun y => by unfold Env.kindOf; rw [c1]
  have g1 : s₁.gens = s.gens := by rw [es]
  have g2 : s₁.os = s.os := by rw [es]
  have hk₂ : ∀ b o, s.heap.get? b = some o → s₁.heap.get? b = some o := fun b o e => by rw [es]; exact hk₁ b o e
  have st₀ : Step P fr env W σ s W σ s₁ := Step.grow I L hk₂ g1 g2
  have hmemcell : ∀ (names : List (Str × NameKind)) (n : Nat) (acc : List (Str × Addr)) (y : Str) (c : Addr), (y, c) ∈ cellsFrom n names acc → (y, c) ∈ acc ∨ (y, NameKind.cell) ∈ names := by
    intro names
    induction names with
    | nil => exact fun _ _ _ _ h => .inl h
    | cons hd' tl ih =>
      intro n acc y c h
      obtain ⟨z, kz⟩ := hd'
      unfold cellsFrom at h
      split at h
      · rename_i hz
        rcases ih _ _ _ _ h with q | q
        · rcases List.mem_cons.mp q with q | q
          · cases q; right; rw [show kz = NameKind.cell from by simpa using hz]; exact .head _
          · exact .inl q
        · exact .inr (.tail _ q)
      · rcases ih _ _ _ _ h with q | q
        · exact .inl q
        · exact .inr (.tail _ q)
  have hndcell : ∀ (names : List (Str × NameKind)) (n : Nat) (acc : List (Str × Addr)), keyed names = true → (acc.map (·.1)).Nodup → (∀ p ∈ acc, ∀ q ∈ names, q.1 ≠ p.1) → ((cellsFrom n names acc).map (·.1)).Nodup := by
    intro names
    induction names with
    | nil => exact fun _ _ _ h _ => h
    | cons hd' tl ih =>
      intro n acc hky hnd hap
      obtain ⟨z, kz⟩ := hd'
      simp only [keyed, Bool.and_eq_true] at hky
      unfold cellsFrom
      split
      · refine ih _ _ hky.2 ?_ fun p hp q hq => ?_
        · simp only [List.map_cons, List.nodup_cons]
          refine ⟨fun hm => ?_, hnd⟩
          obtain ⟨p, hp, e⟩ := List.mem_map.mp hm
          exact hap p hp _ (.head _) e.symm
        · rcases List.mem_cons.mp hp with e | e
          · subst e; have := List.all_eq_true.mp hky.1 q hq; simpa using this
          · exact hap p e q (.tail _ hq)
      · exact ih _ _ hky.2 hnd fun p hp q hq => hap p hp q (.tail _ hq)
  have hcellAt : ∀ y c, (y, c) ∈ cellsFrom (LL + 1) fd.scope.names [] → s₁.heap.IsCell c (bindC cenv.kindOf (ps.zip cargs) (fun _ => none) y) := fun y c hm => by
    refine x.cell y c ?_
    rw [c3]
    exact lookup_of_mem_nodup (hndcell _ _ _ k4 (by simp) fun p hp => by cases hp) hm
  have hrel : ∀ y, Ro W σ.nxt ((ps.zip args).lookup y) (bindC cenv.kindOf (ps.zip cargs) (fun _ => none) y) ∨ ∀ c, (y, c) ∉ cellsFrom (LL + 1) fd.scope.names [] := fun y => by
    by_cases hy : (y, NameKind.cell) ∈ fd.scope.names
    · left
      have hl' : fd.scope.names.lookup y = some .cell := keyed_lookup k4 hy
      rw [bindC_at (by rw [c7, hl']; intro q; cases q) k6]
      have := zip_rel y ps ha
      cases h1 : (ps.zip cargs).lookup y with
      | none => rw [h1] at this; simpa using this
      | some c => rw [h1] at this; simpa using this
    · right
      intro c hm
      rcases hmemcell _ _ _ _ _ hm with q | q
      · cases q
      · exact hy q
  obtain ⟨W₁, st₁, oL, hcel⟩ := cells_ok (L := LL) (bv := ps.zip args) hcellAt hrel fd.scope.names (LL + 1) [] [] σ.toHp W (fun p hp => hp) st₀ hLn (Nat.lt_succ_self _) (by omega) (Out.new I hLn)
    (fun a h => Out.new I (Heap.get?_none_of_le (by omega))) (fun y k h => by cases h)
  -- the frame itself
  obtain ⟨oF, fes, fep, f1, f2, f3⟩ := x.toInCall.ns
  rw [c2] at f1
  have I₁ : Inv P (LL :: fr) W₁ (entryT tb fd.scope (ps.zip args) σ.toHp).toHp s₁ := Inv.under (σ := { σ with toHp := (cellsH (ps.zip args) fd.scope.names σ.toHp []).1 }) st₁.inv oL f1 fun vs q => by rw [f2] at q; cases q
  have L₁ : Loc P cenv W₁ (entryT tb fd.scope (ps.zip args) σ.toHp) s₁.heap := by
    refine ⟨by rw [c1]; exact k1, c4, c5, ⟨_, x.toInCall.ns, fun y v h => ?_⟩, fun y k h => ?_, fun k q h => ?_⟩
    rotate_left 2
    · obtain ⟨q', hq', e⟩ := Option.map_eq_some_iff.mp h
      cases e
      obtain ⟨a1, c, a2, a3⟩ := K.tab q hq'
      refine ⟨I₁.tab0.1, by rw [← hce]; exact a1, c, by rw [← hce]; exact a2, ?_⟩
      rw [I₁.tab0.2]; exact a3
    · have hf : ∀ (l : List (Str × V)), (l.filter (fun p => fd.scope.names.lookup p.1 == some .local)).lookup y = some v → fd.scope.names.lookup y = some .local ∧ l.lookup y = some v := by
        intro l
        induction l with
        | nil => intro h; cases h
        | cons hd' tl ih =>
          intro h
          obtain ⟨z, u⟩ := hd'
          simp only [List.filter] at h
          cases hz : (fd.scope.names.lookup z == some NameKind.local) with
          | true =>
            rw [hz] at h
            simp only [List.lookup] at h ⊢
            cases hq : y == z with
            | true =>
              rw [hq] at h
              have e : y = z := by simpa using hq
              subst e
              exact ⟨by simpa using hz, h⟩
            | false => rw [hq] at h; exact ih h
          | false =>
            rw [hz] at h
            obtain ⟨p1, p2⟩ := ih h
            refine ⟨p1, ?_⟩
            simp only [List.lookup]
            cases hq : y == z with
            | true =>
              have e : y = z := by simpa using hq
              subst e
              rw [p1] at hz; simp at hz
            | false => exact p2
      obtain ⟨p1, p2⟩ := hf _ h
      have hr := zip_rel y ps ha
      rw [p2] at hr
      refine ⟨by rw [c7]; exact p1, ?_⟩
      cases h1 : (ps.zip cargs).lookup y with
      | none => rw [h1] at hr; exact hr.elim
      | some c =>
        rw [h1] at hr
        refine ⟨c, ?_, VR.mono st₁.nx.wle st₁.nx.le hr⟩
        rw [bindL_at k6, c7, p1, h1]
        rfl
    · obtain ⟨p, q⟩ := hcel y k h
      exact ⟨p, fun _ => by rw [c3]; exact q⟩
  have S₁ : ScOk fd.scope cenv := by
    refine ⟨fun y h => by rw [c7]; exact h, fun y h => by rw [c7]; exact h, fun y h => by rw [c7]; exact h, fun y h => by rw [c7]; exact h, fun y h => ?_⟩
    rw [c7] at h
    rw [c3]
    rcases h with h | h
    · have := cells_some (n := LL + 1) (acc := []) (.inr (mem_of_lookupK h))
      exact Option.isSome_iff_exists.mp this
    · have := List.all_eq_true.mp k5 _ (mem_of_lookupK h)
      simp at this
  obtain ⟨lf, hlf, hfm⟩ := F.frames
  have F₁ : FmS P cx.lvl (LL :: fr) (A.deeper cenv) cenv := by
    refine ⟨⟨by rw [c2]; exact .head _, F.handled, by have := F.units; show A.units + 3 + _ + _ < _; omega, by have := F.depth; show A.depth + 1 + _ + _ < _; omega, cenv :: lf, by show A.frames.map _ = _; rw [hlf]; rfl, fun e he => ?_⟩, ⟨lf, by show A.frames.map _ = _; rw [hlf]; rfl⟩, by rw [c2]; exact c6⟩
    rcases List.mem_cons.mp he with q | q
    · subst q; exact ⟨by rw [c1, k1]; decide, LL, c6, .head _⟩
    · obtain ⟨a1, Lx, a2, a3⟩ := hfm e q; exact ⟨a1, Lx, a2, .tail _ a3⟩
  have hne₁ : ex b cx (entryT tb fd.scope (ps.zip args) σ.toHp) ≠ .bad := by intro q; rw [q] at hne; exact hne rfl
  have hLC : LL ≠ env.locals := fun q => by
    have := (I.frB _ F.hL).2
    obtain ⟨o', e', _⟩ := this
    rw [← q, hLn] at e'; cases e'
  refine wpAny_mono (soundS hb cx C (LL :: fr) _ cenv F₁ S₁ W₁ _ s₁ I₁ L₁ hne₁) (fun fl s₂ ⟨v, σ₂, W₂, e₂, st₂, hv⟩ => ?_) (fun e s₂ h => h.elim)
  · rw [Rs.bind_ok e₂] at hne ⊢
    have stF := Step.inner (σ₁ := entryT tb fd.scope (ps.zip args) σ.toHp) st₁ F.hL hLn c2 hLC rfl st₂
    cases hv with
    | next => exact ⟨_, _, W₂, rfl, stF, .none⟩
    | ret hv => exact ⟨_, _, W₂, rfl, stF, hv⟩
    | brk => exact absurd rfl hne

theorem call_def {f : Addr} {fd : FuncData} {ps : List Str} {body : List Stmt} {tb : Option Str} (K : FnOk P f fd ps body tb) (C : SxOk P cx) {b : S} (hb : TieS b fd.scope (.l body))
    (F : Fm P (cx.lvl + 1) fr A env) (I : Inv P fr W σ.toHp s) (L : Loc P env W σ s.heap) {args : List V} {cargs : List Value} (ha : VRs W σ.nxt args cargs) (hne : (runFn fd.scope ps b tb cx args σ.toHp).lift σ ≠ .bad) :
    Keeps P.M A (.ref f) s ∧ wpAny P.M A (call (.ref f) cargs []) (Post P fr env W σ s ((runFn fd.scope ps b tb cx args σ.toHp).lift σ)) NoE s := by
  obtain ⟨o, ho, hd⟩ := K.there
  have ho' := I.keep f o ho
  refine ⟨fun E Q hq => ?_, wpAny_call (call_code K C hb F I L ha hne)⟩
  unfold keeperOf
  refine wpAny_bind (wpAny_load ho' ?_)
  rw [hd]
  exact wpAny_pure (hq _)
end
end Mine
end
noncomputable section
set_option Elab.async false
set_option linter.all false
set_option maxRecDepth 100000
namespace Mine
open PySem PySem.W PyProof.Rows

/-- a lambda is called -/
noncomputable def runLam (ps : List Str) (x : X) (cs : List (Str × Nat)) (cx : Cx) (args : List V) (H : Hp) : Rs V :=
  if args.length = ps.length then ev cx x { toHp := H, loc := ps.zip args, cel := cs } else .bad

theorem lookup_rev {x : Str} : ∀ {ps : List Str} {cs : List Value}, distinct ps = true → (ps.zip cs).reverse.lookup x = (ps.zip cs).lookup x
  | [], _, _ => by simp
  | p :: ps, [], _ => by simp
  | p :: ps, c :: cs, h => by
    simp only [distinct, Bool.and_eq_true] at h
    rw [List.zip_cons_cons, List.reverse_cons, List.lookup_append, lookup_rev h.2]
    cases hq : x == p with
    | true =>
      have e : x = p := by simpa using hq
      subst e
      rw [lookup_zip_none h.1]
      simp [List.lookup]
    | false =>
      simp only [List.lookup, hq]
      cases (ps.zip cs).lookup x <;> rfl

section
variable {P : Par} {fr : List Nat} {A : Around} {env : Env} {W W' : Wd} {σ σ' : St} {s s' : Shared} {cx : Cx}

theorem call_clo (C : CxOk P cx) (hlim : P.B.NoLimit) (F : Fm P (cx.lvl + 1) fr A env) (I : Inv P fr W σ.toHp s) (L : Loc P env W σ s.heap) {ps : List Str} {x : X} {cs : List (Str × Nat)} {cf : Value} (hv : VR W σ.nxt (.clo ps x cs) cf)
    {args : List V} {cargs : List Value} (ha : VRs W σ.nxt args cargs) (hne : (runLam ps x cs cx args σ.toHp).lift σ ≠ .bad) :
    Keeps P.M A cf s ∧ wpAny P.M A (call cf cargs []) (Post P fr env W σ s ((runLam ps x cs cx args σ.toHp).lift σ)) NoE s := by
  cases hv with
  | clo hfz hd K =>
  rename_i f o fd
  have ho' := (I.frz _ _ hfz).1
  refine ⟨fun E Q hq => ?_, wpAny_call ?_⟩
  · unfold keeperOf
    refine wpAny_bind (wpAny_load ho' ?_)
    rw [hd]
    exact wpAny_pure (hq _)
  have hlen : args.length = ps.length := by
    refine Decidable.byContradiction fun q => hne ?_
    unfold runLam; rw [if_neg q]; rfl
  have hrun : runLam ps x cs cx args σ.toHp = ev cx x { toHp := σ.toHp, loc := ps.zip args, cel := cs } := by unfold runLam; rw [if_pos hlen]
  rw [hrun] at hne ⊢
  have hclen : cargs.length = ps.length := ha.length.trans hlen
  have hsh := K.shape
  simp only [lamShape, Bool.and_eq_true, beq_iff_eq, Bool.not_eq_true'] at hsh
  obtain ⟨⟨⟨⟨⟨⟨k1, k2⟩, k3⟩, k4⟩, k6⟩, k7⟩, k5⟩ := hsh
  obtain ⟨body, hbody, hok⟩ := K.body
  obtain ⟨c, oc, vs, t, e1, e2, e3, e4⟩ := K.code
  have hroom : A.depth < recursionLimit := by have := F.depth; omega
  have hnocell : ∀ y ∈ fd.scope.names, y.2 ≠ .cell := fun y hy q => by
    have := List.all_eq_true.mp k5 _ hy; rw [q] at this; exact absurd this (by decide)
  refine kla_callFunE hroom ho' hd k2 k3 hbody ⟨c, oc, vs, t, e1, (I.frz _ _ e2).1, e3, e4⟩ ?_
  rw [K.args cargs hclen]
  refine wpAny_pure (wpAny_newFunctionEnv hnocell (fun y hy => ?_) (fun h₁ hns hsb => ⟨?_, ?_⟩) k1)
  · have hp : y.1 ∈ ps := (List.of_mem_zip (a := y.1) (b := y.2) hy).1
    have := List.all_eq_true.mp k7 _ hp
    simpa using this
  · exact (hlim.keeps I.keep).fresh _ hsb
  have hk₁ : ∀ b o, s.heap.get? b = some o → h₁.get? b = some o := fun b o e => hsb.extBut b o (Nat.ne_of_lt (Heap.lt_size e)) (Heap.get?_push_of_some _ e)
  generalize hLL : s.heap.objs.size = LL at hns hsb
  have hLn : s.heap.get? LL = none := hLL ▸ size_new _
  generalize hce : newEnv fd.scope LL fd.globals fd.closure (fd.qualname ++ ".<locals>.") (some f) fd.code none fd.builtins = cenv
  have c1 : cenv.scope = fd.scope := by rw [← hce]; rfl
  have c2 : cenv.locals = LL := by rw [← hce]; rfl
  have c3 : cenv.cells = fd.closure := by rw [← hce]; rfl
  have c4 : cenv.globals = mainGlobals := by rw [← hce]; exact K.glob
  have c5 : cenv.builtins = builtinsNs := by rw [← hce]; exact K.bns
  have c6 : cenv.frame = some LL := by rw [← hce]; rfl
  have c7 : ∀ y, cenv.kindOf y = fd.scope.names.lookup y := fun y => by unfold Env.kindOf; rw [c1]
  have st₀ : Step P fr env W σ s W σ { s with heap := h₁, toks := s.toks + (ps.zip cargs).length } := Step.grow I L hk₁ rfl rfl
  obtain ⟨oF, fes, fep, f1, f2, f3⟩ := id hns
  have oL : Out P fr W σ.nxt LL := Out.new I hLn
  have I₁ : Inv P (LL :: fr) W ({ toHp := σ.toHp, loc := ps.zip args, cel := cs } : St).toHp { s with heap := h₁, toks := s.toks + (ps.zip cargs).length } := Inv.under (σ := σ) st₀.inv oL f1 fun vs q => by rw [f2] at q; cases q
  have L₁ : Loc P cenv W { toHp := σ.toHp, loc := ps.zip args, cel := cs } h₁ := by
    refine ⟨by rw [c1]; exact k1, c4, c5, ⟨_, by rw [c2]; exact hns, fun y v h => ?_⟩, fun y k h => ?_, fun k q h => by cases h⟩
    · have hr := zip_rel y ps ha
      have h' : (ps.zip args).lookup y = some v := h
      rw [h'] at hr
      have hp : y ∈ ps := (List.of_mem_zip (lookup_mem h')).1
      have hl := List.all_eq_true.mp k7 _ hp
      refine ⟨by rw [c7]; simpa using hl, ?_⟩
      cases h1 : (ps.zip cargs).lookup y with
      | none => rw [h1] at hr; exact hr.elim
      | some c => rw [h1] at hr; exact ⟨c, by rw [lookup_rev k6]; exact h1, hr⟩
    · obtain ⟨p, q⟩ := K.cel y k h
      refine ⟨p, fun hk => ?_⟩
      rw [c7] at hk
      rw [c3]
      rcases hk with hk | hk
      · exact absurd rfl (hnocell _ (lookup_mem hk))
      · exact q hk
  have S₁ : ScOk fd.scope cenv := by
    refine ⟨fun y h => by rw [c7]; exact h, fun y h => by rw [c7]; exact h, fun y h => by rw [c7]; exact h, fun y h => by rw [c7]; exact h, fun y h => ?_⟩
    rw [c7] at h
    rw [c3]
    rcases h with h | h
    · exact absurd rfl (hnocell _ (lookup_mem h))
    · exact K.free y h
  obtain ⟨lf, hlf, hfm⟩ := F.frames
  have F₁ : Fm P cx.lvl (LL :: fr) (A.deeper cenv) cenv := by
    refine ⟨by rw [c2]; exact .head _, F.handled, by have := F.units; show A.units + 3 + _ + _ < _; omega, by have := F.depth; show A.depth + 1 + _ + _ < _; omega, cenv :: lf, by show A.frames.map _ = _; rw [hlf]; rfl, fun e he => ?_⟩
    rcases List.mem_cons.mp he with q | q
    · subst q; exact ⟨by rw [c1, k1]; decide, LL, c6, .head _⟩
    · obtain ⟨a1, Lx, a2, a3⟩ := hfm e q; exact ⟨a1, Lx, a2, .tail _ a3⟩
  have hne₁ : ev cx x { toHp := σ.toHp, loc := ps.zip args, cel := cs } ≠ .bad := by intro q; rw [q] at hne; exact hne rfl
  have hLC : LL ≠ env.locals := fun q => by
    obtain ⟨o', e', _⟩ := (I.frB _ F.hL).2
    rw [← q, hLn] at e'; cases e'
  refine kla_codeExpr (wpAny_mono ((sound C hok (LL :: fr) _ cenv F₁ S₁).1 W _ _ I₁ L₁ hne₁) (fun v s₂ ⟨r, σ₂, W₂, e₂, st₂, hr⟩ => ?_) (fun e s₂ h => h.elim))
  have stF := Step.inner (σ₁ := { toHp := σ.toHp, loc := ps.zip args, cel := cs }) st₀ F.hL hLn c2 hLC rfl st₂
  exact ⟨r, _, W₂, by rw [e₂]; rfl, stF, hr⟩
end
end Mine
end
noncomputable section
set_option Elab.async false
set_option linter.all false
set_option maxRecDepth 100000
namespace Mine
open PySem PySem.W PyProof.Rows

section
variable {W : Wd} {n : Nat}

theorem FR.find {x : Str} : ∀ {fs : List (Str × V)} {es : List DictEntry}, FR W n fs es → Ro W n (fs.lookup x) ((es.find? (·.key.isStr x)).map (·.val)) ∧ es.any (·.refKey) = false
  | _, _, .nil => ⟨trivial, rfl⟩
  | _, _, .cons (x := y) (t := t) hv r => by
    obtain ⟨h1, h2⟩ := FR.find (x := x) r
    simp only [List.lookup, List.find?]
    have e : (Value.str y t).isStr x = (y == x) := rfl
    rw [e]
    cases hq : x == y with
    | true =>
      have : y = x := by simpa using (by simpa using hq : x = y).symm
      subst this
      simp only [beq_self_eq_true, Option.map_some]
      exact ⟨hv, by simpa [DictEntry.refKey] using h2⟩
    | false =>
      have : (y == x) = false := by simpa using fun q => (by simpa using hq : x ≠ y) q.symm
      rw [this]
      exact ⟨h1, by simpa [DictEntry.refKey] using h2⟩

theorem FR.look {x : Str} {fs : List (Str × V)} {es : List DictEntry} {e : Nat} (h : FR W n fs es) : ∃ r, lookIn x (dictOf es e) = some r ∧ Ro W n (fs.lookup x) r := by
  obtain ⟨h1, h2⟩ := FR.find (x := x) h
  unfold lookIn
  dsimp only
  cases hq : es.find? (·.key.isStr x) with
  | none => rw [hq] at h1; dsimp only; rw [if_neg (by rw [h2]; decide)]; exact ⟨none, rfl, h1⟩
  | some en => rw [hq] at h1; exact ⟨some en.val, rfl, h1⟩

theorem FR.put {x : Str} {v : V} {c : Value} {hs : Int} {t : Tok} {f : Option DictEntry → DictEntry} (f0 : f none = ⟨hs, .str x t, c⟩) (f1 : ∀ e, f (some e) = { e with val := c }) (hv : VR W n v c) : ∀ {fs : List (Str × V)} {es : List DictEntry}, FR W n fs es →
    ∀ {es' : List DictEntry} {b : Bool}, nsPutIn x.cps.size x.cps.toList f es = (es', b) → FR W n (setF x v fs) es' ∧ es'.length ≤ es.length + 1
  | _, _, .nil, es', b, h => by
    unfold nsPutIn at h
    cases h
    rw [f0]
    exact ⟨.cons hv .nil, by simp⟩
  | _, _, .cons (x := y) (t := u) (fs := fs) (es := es) hy r, es', b, h => by
    have e : (Value.str y u).isStrByCps x.cps.size x.cps.toList = (y == x) := Value.isStrByCps_eq _ _
    unfold nsPutIn at h
    unfold setF
    dsimp only at h
    rw [e] at h
    cases hq : x == y with
    | true =>
      have : y = x := by simpa using (by simpa using hq : x = y).symm
      subst this
      rw [if_pos (by simp)] at h
      rw [if_pos rfl]
      cases h
      rw [f1]
      exact ⟨.cons hv r, by simp⟩
    | false =>
      have : (y == x) = false := by simpa using fun q => (by simpa using hq : x ≠ y) q.symm
      rw [this, if_neg (by decide)] at h
      rw [if_neg (by decide)]
      cases hp : nsPutIn x.cps.size x.cps.toList f es with
      | mk es₁ b₁ =>
        rw [hp] at h
        cases h
        obtain ⟨e2, e3⟩ := FR.put f0 f1 hv r hp
        exact ⟨.cons hy e2, by simp; omega⟩
theorem FR.putName {x : Str} {v : V} {c : Value} {hs : Int} {t : Tok} {e : Nat} {fs : List (Str × V)} {es : List DictEntry} (hv : VR W n v c) (h : FR W n fs es) :
    ∃ es' e', Obj.putName x hs (.str x t) c (dictOf es e) = dictOf es' e' ∧ FR W n (setF x v fs) es' ∧ es'.length ≤ es.length + 1 := by
  unfold Obj.putName
  dsimp only
  split
  · rename_i es' hp
    obtain ⟨e2, e3⟩ := FR.put rfl (fun _ => rfl) hv h hp
    exact ⟨_, _, rfl, e2, e3⟩
  · rename_i es' hp
    obtain ⟨e2, e3⟩ := FR.put rfl (fun _ => rfl) hv h hp
    exact ⟨_, _, rfl, e2, e3⟩
theorem FR.length : ∀ {fs : List (Str × V)} {es : List DictEntry}, FR W n fs es → es.length = fs.length
  | _, _, .nil => rfl
  | _, _, .cons _ r => by simp [FR.length r]
end

/-- what the base heap says of a class -/
structure ClsOk (P : Par) (K : Frag) (C : Addr) : Prop where
  inn : K.In P.B
  makes : makesIn K C = true
  ga : findIn K (.ref C) "__getattribute__" = some (some (.builtin "object.__getattribute__"))
  gt : findIn K (.ref C) "__getattr__" = some none
  sa : findIn K (.ref C) "__setattr__" = some (some (.builtin "object.__setattr__"))
  plain : plainOver K C = true
  dict : hasDictIn K C = true

section
variable {P : Par} {fr : List Nat} {A : Around} {env : Env} {W W' : Wd} {σ σ' : St} {s s' : Shared} {cx : Sx} {K : Frag} {C : Addr}

theorem inst_at (I : Inv P fr W σ.toHp s) {k d : Nat} {fs : List (Str × V)} (hk : σ.obj k = some (.inst C d)) (hd : σ.obj d = some (.dict fs)) :
    ∃ es e, FR W σ.nxt fs es ∧ d < σ.nxt ∧ k < σ.nxt ∧ s.heap.get? (W.ρ d) = some (dictOf es e) ∧ InstAt s.heap (W.ρ k) (instObj C (W.ρ d)) C (some (dictOf es e)) := by
  obtain ⟨p, c, h1, h2⟩ := I.obj k _ hk
  obtain ⟨q, c', h3, h4⟩ := I.obj d _ hd
  cases h2
  cases h4 with
  | dict h5 => exact ⟨_, _, h5, q, p, h3, h1, rfl, rfl, h3⟩

theorem get_field {Q : Value → Shared → Prop} {E : Value → Shared → Prop} (X : ClsOk P K C) (I : Inv P fr W σ.toHp s) {k d : Nat} {fs : List (Str × V)} (hk : σ.obj k = some (.inst C d)) (hd : σ.obj d = some (.dict fs)) {f : Str} {v : V} (hf : findIn K (.ref C) f = some none)
    (hv : fs.lookup f = some v) (hh : ∀ c, VR W σ.nxt v c → handedIn c = true) (hQ : ∀ c t, VR W σ.nxt v c → Q c { s with toks := t }) : wpAny P.M A (getAttr (.ref (W.ρ k)) f true) Q E s := by
  obtain ⟨es, e, hr, _, _, h1, ia⟩ := inst_at I hk hd
  obtain ⟨r, h2, h3⟩ := hr.look (x := f) (e := e)
  rw [hv] at h3
  cases r with
  | none => exact h3.elim
  | some c => exact get_value (X.inn.keeps I.keep) ia X.ga (findObj_own X.dict hf rfl h2) (hh c h3) (hQ c _ h3)

theorem get_meth {Q : Value × List Value → Shared → Prop} {E : Value → Shared → Prop} {pl : Sem Bool} (X : ClsOk P K C) (I : Inv P fr W σ.toHp s) {k d : Nat} {fs : List (Str × V)} (hk : σ.obj k = some (.inst C d)) (hd : σ.obj d = some (.dict fs)) {f : Str} {g : Addr} (hf : findIn K (.ref C) f = some (some (.ref g)))
    (hg : typeIn K (.ref g) = some (.type "function")) (hv : fs.lookup f = none) (hQ : Q (.ref g, [.ref (W.ρ k)]) s) : wpAny P.M A (getMethod (.ref (W.ρ k)) f pl) Q E s := by
  obtain ⟨es, e, hr, _, _, h1, ia⟩ := inst_at I hk hd
  obtain ⟨r, h2, h3⟩ := hr.look (x := f) (e := e)
  rw [hv] at h3
  cases r with
  | some _ => exact h3.elim
  | none => exact method_fn (X.inn.keeps I.keep) ia X.ga X.gt hf hg (by show Option.map (·.isSome) (lookIn f (dictOf es e)) = _; rw [h2]; rfl) hQ

theorem set_field {Q : Unit → Shared → Prop} {E : Value → Shared → Prop} (X : ClsOk P K C) (I : Inv P fr W σ.toHp s) (L : Loc P env W σ s.heap) (hL : env.locals ∈ fr) {k d : Nat} {fs : List (Str × V)} (hk : σ.obj k = some (.inst C d)) (hd : σ.obj d = some (.dict fs)) {f : Str} {v : V} {c : Value} (hf : findIn K (.ref C) f = some none)
    (hl : fs.length ≤ 100) (hv : VR W σ.nxt v c) (hQ : ∀ s', Step P fr env W σ s W (σ.put d (.dict (setF f v fs))) s' → Q () s') : wpAny P.M A (setAttr (.ref (W.ρ k)) f c) Q E s := by
  obtain ⟨es, e, hr, hdn, hkn, h1, ia⟩ := inst_at I hk hd
  refine set_plain (X.inn.keeps I.keep) ia X.sa ?_
  have I' := I.toks (s.toks + 1)
  refine osa_open (s := { s with toks := s.toks + 1 }) (r := none) (X.inn.keeps I.keep) ia X.plain (by unfold takerIn; rw [hf]; rfl) fun b => ?_
  obtain ⟨cd, hc, hd'⟩ := any_some X.dict
  obtain ⟨es', e', p1, p2, p3⟩ := hr.putName (x := f) (hs := PyData.keyHash P.w.params f) (t := s.toks + 1) (e := e) hv
  obtain ⟨hx, hcl, hn, -⟩ := ia
  refine wpAny_bind (wpAny_pure (wpAny_bind (wpAny_bind (wpAny_loadPart hx (wpAny_bind ((looks_clsIn (X.inn.keeps I'.keep) hc).here ?_))))))
  rw [hd']
  refine wpAny_pure (a := some (W.ρ d)) (wpAny_bind (wpAny_pure (wpAny_bind ?_)))
  unfold nsSet
  refine wpAny_bind (wpAny_bind (wpAny_askSetting (wpAny_pure (wpAny_bind (wpAny_mkText (wpAny_bind (wpAny_loadPart h1 ?_)))))))
  dsimp only
  have hnr := (FR.find (x := f) hr).2
  have c0 : (!es.toArray.any (·.key.isStr f) && es.toArray.any (·.refKey)) = false := by
    rw [← Array.any_toList, ← Array.any_toList, List.toList_toArray, hnr, Bool.and_false]
  rw [aRefKeyMayBeTheName_at, c0]
  refine wpAny_updatePart h1 ?_
  have hu : (s.heap.update (W.ρ d) (Obj.putName f (PyData.keyHash P.w.params f) (.str f (s.toks + 1)) c)).get? (W.ρ d) = some (dictOf es' e') := by
    have := Heap.get?_update_self (Obj.putName f (PyData.keyHash P.w.params f) (.str f (s.toks + 1)) c) h1 (by rw [p1]; rfl)
    rw [p1] at this; exact this
  refine wpAny_bind (wpAny_lookBehind hu (pastItsLine_dict (by rw [List.size_toArray, sizeLine_eq]; have := hr.length; omega)) ?_)
  refine wpAny_pure ?_
  exact hQ _ (Step.put I L hdn hL (.dict (setF f v fs)) (.dict p2) (fun b o hb e => ((Heap.SameBut.update ..).2 b hb).trans e) hu rfl rfl)
end
end Mine
end
noncomputable section
set_option Elab.async false
set_option linter.all false
set_option maxRecDepth 100000
namespace Mine
open PySem PySem.W PyProof.Rows

/-- a class is called: an instance is made, and its __init__ runs -/
noncomputable def makeV (C : Addr) (init : List V → Hp → Rs V) (args : List V) (H : Hp) : Rs V :=
  match init (.ref (H.nxt + 1) :: args) ((H.add (.dict [])).add (.inst C H.nxt)) with
  | .ok .none σ => .ok (.ref (H.nxt + 1)) σ
  | _ => .bad

section
variable {P : Par} {fr : List Nat} {A : Around} {env : Env} {W W' : Wd} {σ σ' : St} {s s' : Shared} {cx : Sx} {K : Frag} {C : Addr}

theorem Fm.under {lv lv' : Nat} {C : Addr} {as : List Value} (F : Fm P lv fr A env) (h : lv' + 1 ≤ lv) : Fm P lv' fr (A.under (.builtin "type.__call__" ⟨.ref C :: as, []⟩)) env := by
  have e1 : (A.under (.builtin "type.__call__" ⟨.ref C :: as, []⟩)).depth = A.depth + 1 := rfl
  have e2 : (A.under (.builtin "type.__call__" ⟨.ref C :: as, []⟩)).units = A.units + 1 := rfl
  have e3 : (A.under (.builtin "type.__call__" ⟨.ref C :: as, []⟩)).frames = A.frames := rfl
  refine ⟨F.hL, F.handled, ?_, ?_, by rw [e3]; exact F.frames⟩
  · have := F.units; rw [e2]; omega
  · have := F.depth; rw [e1]; omega

theorem make_inst {lv : Nat} {init : List V → Hp → Rs V} {fI : Addr} (X : ClsOk P K C) (hi : findIn K (.ref C) "__init__" = some (some (.ref fI))) (hf : typeIn K (.ref fI) = some (.type "function"))
    (hc : ∀ fr A env, Fm P lv fr A env → ∀ W σ s, Inv P fr W σ.toHp s → Loc P env W σ s.heap → ∀ args cargs, VRs W σ.nxt args cargs → (init args σ.toHp).lift σ ≠ .bad →
      codeAny P.M A (.call (.ref fI) ⟨cargs, []⟩) (fun r s' => match r with | .ok (.ret v) => Post P fr env W σ s ((init args σ.toHp).lift σ) v s' | .ok _ => False | .error e => NoE e s') s)
    (F : Fm P (lv + 1) fr A env) (I : Inv P fr W σ.toHp s) (L : Loc P env W σ s.heap) {args : List V} {cargs : List Value} (ha : VRs W σ.nxt args cargs) (hne : (makeV C init args σ.toHp).lift σ ≠ .bad) :
    Keeps P.M A (.ref C) s ∧ wpAny P.M A (call (.ref C) cargs []) (Post P fr env W σ s ((makeV C init args σ.toHp).lift σ)) NoE s := by
  have Y := makes_of (M := P.M) (X.inn.keeps I.keep) X.makes
  obtain ⟨⟨oc, od, cd, sl, hC, e1, e2, e4⟩, made, base, self, top, call, typ⟩ := Y
  refine ⟨fun E Q hq => ?_, ?_⟩
  · unfold keeperOf
    refine wpAny_bind (wpAny_load hC ?_)
    dsimp only
    obtain ⟨hh, g, d, t, os⟩ := s
    refine wpAny_bind (call.at ?_)
    exact wpAny_pure (hq _)
  obtain ⟨hh, g, d, t, os⟩ := s
  have Y := makes_of (M := P.M) (X.inn.keeps I.keep) X.makes
  refine wpAny_call (make_core Y (looks_findIn (X.inn.keeps I.keep) hi) (fun self => bind_fn (X.inn.keeps I.keep) self hf) (.inl rfl) ?_)
  -- the dict, and the instance
  have st₁ := Step.add (s := ⟨hh, g, d, t, os⟩) (s' := ⟨hh.push emptyDict, g, d, t, os⟩) I L (.dict []) emptyDict (.dict (es := []) .nil) rfl rfl rfl
  have hd₁ : (W.add σ.nxt hh.objs.size).ρ σ.nxt = hh.objs.size := by show (if σ.nxt = σ.nxt then _ else _) = _; rw [if_pos rfl]
  have hor : OR ((W.add σ.nxt hh.objs.size).add (σ.nxt + 1) (hh.push emptyDict).objs.size) (σ.nxt + 1 + 1) (.inst C σ.nxt) (instObj C hh.objs.size) := by
    have hl := (W.add σ.nxt hh.objs.size).add_le (σ.nxt + 1) (hh.push emptyDict).objs.size
    have key := OR.inst (W := (W.add σ.nxt hh.objs.size).add (σ.nxt + 1) (hh.push emptyDict).objs.size) (n := σ.nxt + 1 + 1) (C := C) (d := σ.nxt) (by omega)
    rw [hl.ρ σ.nxt (Nat.lt_succ_self _), hd₁] at key
    exact key
  have st₂ := Step.add (s := ⟨hh.push emptyDict, g, d, t, os⟩) (s' := ⟨(hh.push emptyDict).push (instObj C hh.objs.size), g, d, t, os⟩) st₁.inv st₁.loc (.inst C σ.nxt) (instObj C hh.objs.size) hor rfl rfl rfl
  have st : Step P fr env W σ ⟨hh, g, d, t, os⟩ ((W.add σ.nxt hh.objs.size).add (σ.nxt + 1) (hh.push emptyDict).objs.size) ((σ.add (.dict [])).add (.inst C σ.nxt)) ⟨(hh.push emptyDict).push (instObj C hh.objs.size), g, d, t, os⟩ := st₁.trans st₂
  generalize hW : ((W.add σ.nxt hh.objs.size).add (σ.nxt + 1) (hh.push emptyDict).objs.size) = W₂ at st
  have hself : W₂.ρ (σ.nxt + 1) = hh.objs.size + 1 := by
    rw [← hW]; show (if σ.nxt + 1 = σ.nxt + 1 then _ else _) = _; rw [if_pos rfl, Heap.size_push]
  have hvs : VRs W₂ (σ.nxt + 1 + 1) (.ref (σ.nxt + 1) :: args) (.ref (hh.objs.size + 1) :: cargs) := by
    refine .cons ?_ (ha.mono st.nx.wle st.nx.le)
    rw [← hself]
    exact .ref (by omega)
  have hmk : (makeV C init args σ.toHp) = (match init (.ref (σ.nxt + 1) :: args) ((σ.add (.dict [])).add (.inst C σ.nxt)).toHp with
    | .ok .none σ' => .ok (.ref (σ.nxt + 1)) σ'
      | _ => .bad) := rfl
  have hne' : (init (.ref (σ.nxt + 1) :: args) ((σ.add (.dict [])).add (.inst C σ.nxt)).toHp).lift ((σ.add (.dict [])).add (.inst C σ.nxt)) ≠ .bad := by
    intro q
    refine hne ?_
    rw [hmk]
    cases hq : init (.ref (σ.nxt + 1) :: args) ((σ.add (.dict [])).add (.inst C σ.nxt)).toHp with
    | ok v σ' => rw [hq] at q; cases q
    | bad => rfl
  refine codeAny_mono (hc fr _ env (F.under (Nat.le_refl _)) W₂ _ _ st.inv st.loc _ _ hvs hne') fun r s' z => ?_
  cases hq : init (.ref (σ.nxt + 1) :: args) ((σ.add (.dict [])).add (.inst C σ.nxt)).toHp with
  | ok v σ' =>
    rw [hq] at z hmk
    cases r with
    | error e => exact z.elim
    | ok fl => cases fl with
     | ret cv =>
      obtain ⟨v', σ₃, W₃, q, st₃, hv⟩ := z
      cases q
      cases v with
      | none =>
        cases hv
        refine ⟨rfl, _, _, W₃, by rw [hmk]; rfl, st.trans st₃, ?_⟩
        have := (VR.ref (W := W₂) (n := σ.nxt + 1 + 1) (k := σ.nxt + 1) (by omega)).mono st₃.nx.wle st₃.nx.le
        rw [hself] at this
        exact this
      | _ => rw [hmk] at hne; exact absurd rfl hne
     | _ => exact z.elim
  | bad => rw [hq] at hmk; rw [hmk] at hne; exact absurd rfl hne
end
end Mine
end
noncomputable section
set_option Elab.async false
set_option linter.all false
set_option maxRecDepth 100000
namespace Mine
open PySem PySem.W PyProof.Rows

/-! ## builtins -/
noncomputable def okH (v : V) (H : Hp) : Rs V := .ok v { toHp := H, loc := [] }
noncomputable def lenB (v : V) (H : Hp) : Rs V := match strOf v with
  | some x => okH (.int x.length) H
  | none => (asList H v).elim .bad fun xs => okH (.int xs.length) H
noncomputable def rangeB (args : List V) (H : Hp) : Rs V := match args with
  | [.int n] => if Builtin.Range.small 0 n 1 = true then okH (.rng 0 n 1) H else .bad
  | _ => .bad
noncomputable def appendB (v x : V) (H : Hp) : Rs V := match v with
  | .ref k => (match H.obj k with
    | some (.list xs) => if xs.length + 1 ≤ sizeLine then okH .none { H with obj := fun j => if j = k then some (.list (xs ++ [x])) else H.obj j } else .bad
    | _ => .bad)
  | _ => .bad

section
variable {P : Par} {fr : List Nat} {A : Around} {env : Env} {W W' : Wd} {σ σ' : St} {s s' : Shared} {cx : Sx}

theorem keeps_builtin {M : Model} {i : String} : Keeps M A (.builtin i) s := fun E Q hq => wpAny_pure (hq _)
theorem keeps_type {M : Model} {i : String} : Keeps M A (.type i) s := fun E Q hq => wpAny_pure (hq _)

theorem post_H {r : Rs V} {v : V} {c : Value} {t : Nat} (I : Inv P fr W σ.toHp s) (L : Loc P env W σ s.heap) (e : r = okH v σ.toHp) (hv : VR W σ.nxt v c) : Post P fr env W σ s (r.lift σ) c { s with toks := t } :=
  ⟨v, σ, W, by rw [e]; rfl, Step.toks I L t, hv⟩

theorem lift_bad {r : Rs V} (h : r.lift σ ≠ .bad) : r ≠ .bad := fun q => h (by rw [q]; rfl)
theorem len_list {H : Hp} {v : V} {xs : List V} (hs : strOf v = none) (h : asList H v = some xs) : lenB v H = okH (.int xs.length) H := by
  unfold lenB; rw [hs, h]; rfl
theorem len_ok (I : Inv P fr W σ.toHp s) (L : Loc P env W σ s.heap) {v : V} {c : Value} (hv : VR W σ.nxt v c) (hne : (lenB v σ.toHp).lift σ ≠ .bad) :
    wpAny P.M A (call (.builtin "len") [c] []) (Post P fr env W σ s ((lenB v σ.toHp).lift σ)) NoE s := by
  cases hs : strOf v with
  | some x =>
    obtain rfl := strOf_some hs
    obtain ⟨t, rfl, hl, _⟩ := hv.inv_str
    exact len_str (by have := sizeLine_lt63; omega) (post_H I L rfl (.int _ _))
  | none =>
    have hne' : (asList σ.toHp v).elim Rs.bad (fun xs => okH (.int xs.length) σ.toHp) ≠ .bad := fun q => lift_bad hne (by unfold lenB; rw [hs]; exact q)
    obtain ⟨xs, hx⟩ := elim_ok hne'
    obtain ⟨a, items, rfl, hl, hr, hz⟩ := list_at I hv hx
    refine Calls.call_len_list hl (by have := sizeLine_lt63; omega) (post_H I L (len_list hs hx) ?_)
    rw [← hr.length, Array.length_toList]
    exact .int _ _

theorem range_ok (I : Inv P fr W σ.toHp s) (L : Loc P env W σ s.heap) {args : List V} {cargs : List Value} (ha : VRs W σ.nxt args cargs) (hne : (rangeB args σ.toHp).lift σ ≠ .bad) :
    wpAny P.M A (call (.type "range") cargs []) (Post P fr env W σ s ((rangeB args σ.toHp).lift σ)) NoE s := by
  unfold rangeB at hne ⊢
  split at hne
  · rename_i n
    obtain ⟨c, rfl, h1⟩ := ha.inv1
    obtain ⟨t, rfl⟩ := h1.inv_int
    · · · by_cases hq : Builtin.Range.small 0 n 1 = true
          · skip
            rw [if_pos hq]
            refine call_range_1 ?_
            have st := Step.freeze (s' := { s with heap := s.heap.push { cls := .type "range", data := .fields #[.int 0 s.toks, .int n t, .int 1 (s.toks + 1)] }, toks := s.toks + 1 + 1 }) I L { cls := .type "range", data := .fields #[.int 0 s.toks, .int n t, .int 1 (s.toks + 1)] } rfl rfl rfl rfl
            exact ⟨_, _, _, rfl, st, .rng (by show (if _ = _ then _ else _) = _; rw [if_pos rfl]) hq⟩
          · rw [if_neg hq] at hne; exact absurd rfl hne
  · exact absurd rfl hne

theorem append_ok (I : Inv P fr W σ.toHp s) (L : Loc P env W σ s.heap) (hL : env.locals ∈ fr) {v x : V} {c d : Value} (hv : VR W σ.nxt v c) (hx : VR W σ.nxt x d) (hne : (appendB v x σ.toHp).lift σ ≠ .bad) :
    wpAny P.M A (call (.builtin "list.append") [c, d] []) (Post P fr env W σ s ((appendB v x σ.toHp).lift σ)) NoE s := by
  unfold appendB at hne ⊢
  split at hne
  · rename_i k
    obtain ⟨rfl, hk⟩ := hv.inv_ref
    · split at hne
      · rename_i xs ho
        by_cases hz : xs.length + 1 ≤ sizeLine
        · rw [if_pos hz]
          obtain ⟨_, ob, hg, hr⟩ := I.obj _ _ ho
          obtain ⟨items, e, rfl, r, z⟩ := hr.inv_list
          · refine call_meets PySem.F.slot_list_append ⟨_, hg, rfl⟩ PySem.F.entry_list_append (PySem.F.args_list_append_2 _ _) (list_append _ items e d z) ⟨hg, ?_⟩
            have hu := IsL.update (n := e) hg (fun xs => xs.push d)
            refine ⟨_, σ.put k (.list (xs ++ [x])), W, rfl, Step.put I L hk hL (.list (xs ++ [x])) (.list (e := _) ?_ ?_) (fun b o hb e => ((Heap.SameBut.update ..).2 b hb).trans e) hu rfl rfl, .none⟩
            · rw [Array.toList_push]; exact r.append (.cons hx .nil)
            · have := r.length; rw [Array.length_toList] at this; rw [Array.size_push]; omega
        · rw [if_neg hz] at hne; exact absurd rfl hne
      · exact absurd rfl hne
  · exact absurd rfl hne
end
end Mine
end
noncomputable section
set_option Elab.async false
set_option linter.all false
set_option maxRecDepth 100000
namespace Mine
open PySem PySem.W PyProof.Rows Mine.Re

/-! ## the search, and what is asked of a match -/
noncomputable def intsV : List V → Option (List Int)
  | [] => some []
  | [a] => (intOf a).map fun i => [i]
  | [a, b] => (intOf a).bind fun i => (intOf b).map fun l => [i, l]
  | _ => none
noncomputable def foundV (x : PySem.Str) (is : List Int) (H : Hp) : Rs V :=
  if -(2 ^ 63) ≤ posOf is ∧ posOf is < 2 ^ 63 ∧ -(2 ^ 63) ≤ limOf is ∧ limOf is < 2 ^ 63 then
    (match searchR x.cps words1 (min (posOf is).toNat x.cps.size) (min (limOf is).toNat x.cps.size) with
    | some (p, e) => okH (.mt p e) H
    | none => okH .none H)
  else .bad
noncomputable def searchB (args : List V) (H : Hp) : Rs V := match args with
  | a :: r => (strOf a).elim .bad fun x => (intsV r).elim .bad fun is => foundV x is H
  | _ => .bad
noncomputable def startB (v : V) (H : Hp) : Rs V := match v with
  | .mt p _ => okH (.int p) H
  | _ => .bad
noncomputable def spanB (v : V) (H : Hp) : Rs V := match v with
  | .mt p e => okH (.tup [.int p, .int e]) H
  | _ => .bad
noncomputable def rfindB (args : List V) (H : Hp) : Rs V := match args with
  | [a, b, c, d] => (strOf a).elim .bad fun x => (strOf b).elim .bad fun y => (intOf c).elim .bad fun i => (intOf d).elim .bad fun j => okH (.int (rfindI x y (upTo x.length i) (min (upTo x.length j) x.length))) H
  | _ => .bad

section
variable {P : Par} {fr : List Nat} {A : Around} {env : Env} {W W' : Wd} {σ σ' : St} {s s' : Shared}

theorem int_at {W : Wd} {n : Nat} {v : V} {i : Int} {c : Value} (h : VR W n v c) (e : intOf v = some i) : ∃ t, c = .int i t := by
  rw [intOf_some e] at h; exact h.inv_int
theorem intsV_rel {W : Wd} {n : Nat} {args : List V} {cs : List Value} {is : List Int} (h : VRs W n args cs) (e : intsV args = some is) : IntArgs is cs := by
  cases h with
  | nil => cases e; exact .nil
  | cons a r => cases r with
    | nil =>
      obtain ⟨i, h1, rfl⟩ := Option.map_eq_some_iff.mp (show Option.map _ _ = _ from e)
      obtain ⟨t, rfl⟩ := int_at a h1
      exact .one _ _
    | cons b r => cases r with
      | nil =>
        obtain ⟨i, h1, h2⟩ := Option.bind_eq_some_iff.mp (show Option.bind _ _ = _ from e)
        obtain ⟨l, h3, rfl⟩ := Option.map_eq_some_iff.mp h2
        obtain ⟨t, rfl⟩ := int_at a h1
        obtain ⟨u, rfl⟩ := int_at b h3
        exact .two _ _ _ _
      | cons _ _ => cases e

theorem mt_at (I : Inv P fr W σ.toHp s) {p e : Nat} {c : Value} (h : VR W σ.nxt (.mt p e) c) : ∃ a o, c = .ref a ∧ MatchAt s.heap a p e ∧ s.heap.get? a = some o ∧ o.cls = .type "re.Match" ∧ o.dict = none := by
  cases h with
  | mt h1 h2 h3 h4 h5 h6 h7 h8 => exact ⟨_, _, rfl, ⟨_, _, _, _, _, _, _, _, (I.frz _ _ h1).1, h2, h3, h4, (I.frz _ _ h5).1, h6, h7⟩, (I.frz _ _ h1).1, h2, h8⟩

theorem search_ok {b pt : Addr} (hb : P.B.get? b = some (boundObj "re.Pattern.search" pt)) (hp : PatAt P.B pt code1) (I : Inv P fr W σ.toHp s) (L : Loc P env W σ s.heap) {args : List V} {cargs : List Value} (ha : VRs W σ.nxt args cargs) (hne : (searchB args σ.toHp).lift σ ≠ .bad) :
    wpAny P.M A (call (.ref b) cargs []) (Post P fr env W σ s ((searchB args σ.toHp).lift σ)) NoE s := by
  have hne' := lift_bad hne
  cases args with
  | nil => exact absurd rfl hne
  | cons v r =>
  obtain ⟨c, cs, rfl, h1, h2⟩ := ha.inv_cons
  obtain ⟨x, ex⟩ := elim_ok (show (strOf v).elim Rs.bad _ ≠ .bad from hne')
  obtain rfl := strOf_some ex
  obtain ⟨is, hi⟩ := elim_ok (show (intsV r).elim Rs.bad _ ≠ .bad from hne')
  have hB : searchB (.str x :: r) σ.toHp = foundV x is σ.toHp := by
    show (intsV r).elim Rs.bad _ = _
    rw [hi]; rfl
  rw [hB] at hne ⊢
  obtain ⟨t, rfl, hl, hs⟩ := h1.inv_str
  have hia := intsV_rel h2 hi
  unfold foundV at hne ⊢
  split at hne
  · rename_i hr
    rw [if_pos hr]
    obtain ⟨op, fs, ct, p1, p2, p3, p4, p5, p6, oc, items, e, p7, p8, p9⟩ := hp.at_
    refine call_search (I.keep _ _ hb) ⟨op, fs, ct, I.keep _ _ p1, p2, p3, p4, p5, p6, oc, items, e, I.keep _ _ p7, p8, p9⟩ hia hl hr.1 hr.2.1 hr.2.2.1 hr.2.2.2 (fun p e hq => ?_) fun hq => ?_
    · rw [hq]
      have st₁ := Step.freeze (s' := { s with heap := s.heap.push (tupObj p e) }) I L (tupObj p e) rfl rfl rfl rfl
      have hz : (s.heap.push (tupObj p e)).objs.size = s.heap.objs.size + 1 := Heap.size_push ..
      have st₂ := Step.freeze (s' := { s with heap := (s.heap.push (tupObj p e)).push (matchObj x t pt s.heap.objs.size (min (posOf is).toNat x.cps.size) (min (limOf is).toNat x.cps.size)) }) st₁.inv st₁.loc (matchObj x t pt s.heap.objs.size (min (posOf is).toNat x.cps.size) (min (limOf is).toNat x.cps.size)) rfl rfl rfl rfl
      refine ⟨_, _, _, rfl, st₁.trans st₂, ?_⟩
      rw [← hz]
      refine .mt (o := matchObj x t pt s.heap.objs.size (min (posOf is).toNat x.cps.size) (min (limOf is).toNat x.cps.size)) (ot := tupObj p e) (by show (if _ = _ then _ else _) = _; rw [if_pos rfl]) rfl rfl rfl (st₂.nx.wle.fz _ _ (by show (if _ = _ then _ else _) = _; rw [if_pos rfl])) rfl rfl rfl
    · rw [hq]
      exact ⟨_, _, W, rfl, Step.refl I L, .none⟩
  · exact absurd rfl hne

theorem start_ok' (I : Inv P fr W σ.toHp s) (L : Loc P env W σ s.heap) {v : V} {c : Value} (hv : VR W σ.nxt v c) (hne : (startB v σ.toHp).lift σ ≠ .bad) :
    wpAny P.M A (call (.builtin "re.Match.start") [c] []) (Post P fr env W σ s ((startB v σ.toHp).lift σ)) NoE s := by
  unfold startB at hne ⊢
  split at hne
  · obtain ⟨a, o, rfl, X, _⟩ := mt_at I hv
    exact call_start X (post_H I L rfl (.int _ _))
  · exact absurd rfl hne
theorem span_ok (I : Inv P fr W σ.toHp s) (L : Loc P env W σ s.heap) {v : V} {c : Value} (hv : VR W σ.nxt v c) (hne : (spanB v σ.toHp).lift σ ≠ .bad) :
    wpAny P.M A (call (.builtin "re.Match.span") [c] []) (Post P fr env W σ s ((spanB v σ.toHp).lift σ)) NoE s := by
  unfold spanB at hne ⊢
  split at hne
  · rename_i p e
    obtain ⟨a, o, rfl, X, _⟩ := mt_at I hv
    refine call_span X ?_
    have st := Step.freeze (s' := { s with heap := s.heap.push { cls := .type "tuple", data := .seq #[.int p s.toks, .int e (s.toks + 1)] }, toks := s.toks + 1 + 1 }) I L { cls := .type "tuple", data := .seq #[.int p s.toks, .int e (s.toks + 1)] } rfl rfl rfl rfl
    exact ⟨_, _, _, rfl, st, .tup (by show (if _ = _ then _ else _) = _; rw [if_pos rfl]) rfl rfl (by show (2 : Nat) ≤ sizeLine; decide) (.cons (.int _ _) (.cons (.int _ _) .nil))⟩
  · exact absurd rfl hne
theorem rfind_ok (I : Inv P fr W σ.toHp s) (L : Loc P env W σ s.heap) {args : List V} {cargs : List Value} (ha : VRs W σ.nxt args cargs) (hne : (rfindB args σ.toHp).lift σ ≠ .bad) :
    wpAny P.M A (call (.builtin "str.rfind") cargs []) (Post P fr env W σ s ((rfindB args σ.toHp).lift σ)) NoE s := by
  have hne' := lift_bad hne
  match args, ha, hne' with
  | [a, b, c, d], ha, hne' =>
    obtain ⟨ca, cs, rfl, h1, ha1⟩ := ha.inv_cons
    obtain ⟨cb, cs', rfl, h2, ha2⟩ := ha1.inv_cons
    obtain ⟨cc, cd, rfl, h3, h4⟩ := ha2.inv2
    obtain ⟨x, e1⟩ := elim_ok (show (strOf a).elim Rs.bad _ ≠ .bad from hne')
    obtain rfl := strOf_some e1
    obtain ⟨y, e2⟩ := elim_ok (show (strOf b).elim Rs.bad _ ≠ .bad from hne')
    obtain rfl := strOf_some e2
    obtain ⟨i, e3⟩ := elim_ok (show (intOf c).elim Rs.bad _ ≠ .bad from hne')
    obtain rfl := intOf_some e3
    obtain ⟨j, e4⟩ := elim_ok (show (intOf d).elim Rs.bad _ ≠ .bad from hne')
    obtain rfl := intOf_some e4
    obtain ⟨_, rfl, _⟩ := h1.inv_str
    obtain ⟨_, rfl, _⟩ := h2.inv_str
    obtain ⟨_, rfl⟩ := h3.inv_int
    obtain ⟨_, rfl⟩ := h4.inv_int
    exact call_rfind (post_H I L rfl (.int _ _))
  | [], _, h => exact absurd rfl h
  | [_], _, h => exact absurd rfl h
  | [_, _], _, h => exact absurd rfl h
  | [_, _, _], _, h => exact absurd rfl h
  | _ :: _ :: _ :: _ :: _ :: _, _, h => exact absurd rfl h
end
end Mine
end
noncomputable section
set_option Elab.async false
set_option linter.all false
set_option maxRecDepth 100000
namespace Mine
open PySem PySem.W PyProof.Rows

/-! ## chr, list.index -/
noncomputable def intsOf : List V → Option (List Int)
  | [] => some []
  | v :: r => (intOf v).bind fun i => (intsOf r).map fun l => i :: l
noncomputable def chrB (v : V) (H : Hp) : Rs V := (intOf v).elim .bad fun i => if 0 ≤ i ∧ i < 55296 then okH (.str ⟨#[i.toNat]⟩) H else .bad
noncomputable def indexB (v x : V) (H : Hp) : Rs V := (intOf x).elim .bad fun k => ((asList H v).bind intsOf).elim .bad fun ns => if ns.idxOf k < ns.length then okH (.int (ns.idxOf k : Nat)) H else .bad

section
variable {P : Par} {fr : List Nat} {A : Around} {env : Env} {W W' : Wd} {σ σ' : St} {s s' : Shared} {cx : Sx}

theorem chr_ok (I : Inv P fr W σ.toHp s) (L : Loc P env W σ s.heap) {v : V} {c : Value} (hv : VR W σ.nxt v c) (hne : (chrB v σ.toHp).lift σ ≠ .bad) :
    wpAny P.M A (call (.builtin "chr") [c] []) (Post P fr env W σ s ((chrB v σ.toHp).lift σ)) NoE s := by
  have hne' := lift_bad hne
  obtain ⟨i, e⟩ := elim_ok hne'
  obtain rfl := intOf_some e
  obtain ⟨t, rfl⟩ := hv.inv_int
  by_cases h : 0 ≤ i ∧ i < 55296
  · have he : chrB (.int i) σ.toHp = okH (.str ⟨#[i.toNat]⟩) σ.toHp := if_pos h
    refine PySem.P.chr_of_int (by rw [Bool.or_eq_false_iff, decide_eq_false_iff_not, decide_eq_false_iff_not]; omega) (post_H I L he (.str _ _ (by show 1 ≤ sizeLine; decide) ?_))
    show (#[i.toNat] : Array Nat).all _ = true
    simp; omega
  · exact absurd (if_neg h) hne'

theorem ints_rel {W : Wd} {n : Nat} : ∀ {xs : List V} {cs : List Value} {ts : List Int}, VRs W n xs cs → intsOf xs = some ts → IntsAre cs ts
  | [], _, ts, h, e => by rw [h.inv_nil]; cases e; exact .nil
  | x :: r, _, ts, h, e => by
    obtain ⟨c, ds, rfl, h1, h2⟩ := h.inv_cons
    obtain ⟨i, e1, e2⟩ := Option.bind_eq_some_iff.mp (show Option.bind _ _ = some ts from e)
    obtain ⟨l, e3, rfl⟩ := Option.map_eq_some_iff.mp e2
    obtain ⟨t, rfl⟩ := int_at h1 e1
    exact .cons _ _ (ints_rel h2 e3)
theorem isInt_at {k : Int} : ∀ {vs : List Value} {ns : List Int}, IntsAre vs ns → ∀ (j : Nat) (h : j < vs.length), isInt k vs[j] = (ns[j]? == some k)
  | _, _, .nil, j, h => absurd h (Nat.not_lt_zero _)
  | _, _, .cons n t r, 0, h => by simp [isInt]
  | _, _, .cons n t r, j + 1, h => by simpa using isInt_at r j (by simpa using h)
theorem intsAre_length : ∀ {vs : List Value} {ns : List Int}, IntsAre vs ns → vs.length = ns.length
  | _, _, .nil => rfl
  | _, _, .cons _ _ r => by simp [intsAre_length r]

theorem index_ok (I : Inv P fr W σ.toHp s) (L : Loc P env W σ s.heap) {v x : V} {c d : Value} (hv : VR W σ.nxt v c) (hx : VR W σ.nxt x d) (hne : (indexB v x σ.toHp).lift σ ≠ .bad) :
    wpAny P.M A (call (.builtin "list.index") [c, d] []) (Post P fr env W σ s ((indexB v x σ.toHp).lift σ)) NoE s := by
  have hne' := lift_bad hne
  obtain ⟨k, e⟩ := elim_ok hne'
  obtain rfl := intOf_some e
  obtain ⟨t, rfl⟩ := hx.inv_int
  have hne2 : ((asList σ.toHp v).bind intsOf).elim Rs.bad (fun ns => if ns.idxOf k < ns.length then okH (.int (ns.idxOf k : Nat)) σ.toHp else .bad) ≠ .bad := hne'
  obtain ⟨ns, e⟩ := elim_ok hne2
  obtain ⟨xs, e1, e2⟩ := Option.bind_eq_some_iff.mp e
  obtain ⟨a, items, rfl, hl, hr, hz⟩ := list_at I hv e1
  have hi := ints_rel hr e2
  have hB : indexB v (.int k) σ.toHp = if ns.idxOf k < ns.length then okH (.int (ns.idxOf k : Nat)) σ.toHp else .bad := by
    show ((asList σ.toHp v).bind intsOf).elim Rs.bad _ = _
    rw [e]; rfl
  by_cases hq : ns.idxOf k < ns.length
  · rw [if_pos hq] at hB
    obtain ⟨⟨cls, dd, data, sl⟩, ho, hc, n, hd⟩ := id hl
    simp only at hc hd
    subst hc hd
    have hlen : items.size = ns.length := by rw [← Array.length_toList]; exact intsAre_length hi
    have at_ : ∀ (j : Nat) (h : j < items.size), isInt k items[j] = (ns[j]? == some k) := fun j h => by
      have := isInt_at (k := k) hi j (by rw [Array.length_toList]; exact h)
      simpa using this
    refine call_meets PySem.F.slot_list_index ⟨_, ho, rfl⟩ PySem.F.entry_list_index (PySem.F.args_list_index_2 _ _) (SeqAt.list_indexAt a items n dd sl (.int k t) (isInt k) (ns.idxOf k) (by omega) (by have := sizeLine_lt63; omega) ?_ ?_) ⟨ho, fun y hy => (eq_isInt k t hi y (by simpa using hy)).at _ _, ?_⟩
    · rw [at_ _ (by omega), List.getElem?_eq_getElem hq, List.getElem_idxOf hq]; simp
    · intro m hm hlt
      rw [at_ m hm]
      have : ns[m]? ≠ some k := fun q => by
        obtain ⟨h1, h2⟩ := List.getElem?_eq_some_iff.mp q
        have := List.not_of_lt_findIdx (p := (· == k)) (xs := ns) (i := m) hlt
        simp [h2] at this
      simpa using this
    · exact post_H I L hB (.int _ _)
  · rw [if_neg hq] at hB; exact absurd hB hne'
end
end Mine
end
noncomputable section
set_option Elab.async false
set_option linter.all false
set_option maxRecDepth 100000
namespace Mine
open PySem PySem.W PyProof.Rows Mine.Re

/-! ## what a program's names mean -/
structure Prg where
  K : Frag
  C : Addr
  meths : List (Str × Addr)
  flds : List Str
  gl : Str → Option V
  /-- the search of the one pattern -/
  srch : Addr
  /-- the function that makes a lambda, and the lambda's name -/
  tb : Option (Addr × Str) := none

noncomputable def handedV : V → Bool
  | .top w => handedIn w
  | _ => true
noncomputable def instOf (G : Prg) (o : V) (H : Hp) : Option (Nat × Nat × List (Str × V)) := match o with
  | .ref k => (match H.obj k with
    | some (.inst C d) => (match H.obj d with
      | some (.dict fs) => if C = G.C then some (k, d, fs) else none
      | _ => none)
    | _ => none)
  | _ => none
noncomputable def fldV (G : Prg) (o : V) (f : Str) (H : Hp) : Ov := match instOf G o H with
  | some (_, _, fs) => if G.flds.contains f = true then (match fs.lookup f with
      | some v => if handedV v = true then .ok v else .bad
      | none => .bad) else .bad
  | none => .bad
noncomputable def setV (G : Prg) (o : V) (f : Str) (v : V) (H : Hp) : Option Hp := match instOf G o H with
  | some (_, d, fs) => if G.flds.contains f = true ∧ fs.length ≤ 100 then some { H with obj := fun j => if j = d then some (.dict (setF f v fs)) else H.obj j } else none
  | none => none
noncomputable def strMeth (m : Str) : Option String := if m = ("rfind" : Str) then some "str.rfind" else none
noncomputable def listMeth (m : Str) : Option String := if m = ("append" : Str) then some "list.append" else none
noncomputable def frozMeth (m : Str) : Option String := if m = ("index" : Str) then some "list.index" else none
noncomputable def mtMeth (m : Str) : Option String := if m = ("start" : Str) then some "re.Match.start" else if m = ("span" : Str) then some "re.Match.span" else none
noncomputable def getV (G : Prg) (o : V) (m : Str) (H : Hp) : Option (V × List V) := match o with
  | .str x => (strMeth m).map fun i => (.top (.builtin i), [.str x])
  | .mt p e => (mtMeth m).map fun i => (.top (.builtin i), [.mt p e])
  | .list xs => (frozMeth m).map fun i => (.top (.builtin i), [.list xs])
  | .ref k => (match instOf G (.ref k) H with
    | some (_, _, fs) => if fs.lookup m = none then (G.meths.lookup m).map fun g => (.top (.ref g), [.ref k]) else none
    | none => (match H.obj k with
      | some (.list _) => (listMeth m).map fun i => (.top (.builtin i), [.ref k])
      | _ => none))
  | _ => none
noncomputable def bapp (i : String) (args : List V) (H : Hp) : Rs V :=
  if i = "len" then (match args with | [v] => lenB v H | _ => .bad)
  else if i = "str.rfind" then rfindB args H
  else if i = "list.append" then (match args with | [a, b] => appendB a b H | _ => .bad)
  else if i = "chr" then (match args with | [v] => chrB v H | _ => .bad)
  else if i = "list.index" then (match args with | [a, b] => indexB a b H | _ => .bad)
  else if i = "re.Match.start" then (match args with | [v] => startB v H | _ => .bad)
  else if i = "re.Match.span" then (match args with | [v] => spanB v H | _ => .bad)
  else .bad
noncomputable def tapp (i : String) (args : List V) (H : Hp) : Rs V :=
  if i = "range" then rangeB args H else .bad
noncomputable abbrev Fns := Addr → List V → Hp → Rs V
noncomputable abbrev Lams := List Str → X → List (Str × Nat) → List V → Hp → Rs V
noncomputable def appV (G : Prg) (fns : Fns) (lam : Lams) (f : V) (args : List V) (H : Hp) : Rs V := match f with
  | .top (.builtin i) => bapp i args H
  | .top (.type i) => tapp i args H
  | .top (.ref a) => if a = G.srch then searchB args H else fns a args H
  | .clo ps x cs => lam ps x cs args H
  | _ => .bad
noncomputable def mk (G : Prg) (lv : Nat) (fns : Fns) (lam : Lams) : Sx := { lvl := lv, gl := G.gl, app := appV G fns lam, get := getV G, fld := fldV G, setA := setV G }

structure PrgOk (P : Par) (G : Prg) : Prop where
  cls : ClsOk P G.K G.C
  lam : LamOk P
  srch : ∃ pt, P.B.get? G.srch = some (boundObj "re.Pattern.search" pt) ∧ PatAt P.B pt code1
  meth : ∀ m g, G.meths.lookup m = some g → findIn G.K (.ref G.C) m = some (some (.ref g)) ∧ typeIn G.K (.ref g) = some (.type "function")
  fld : ∀ f, G.flds.contains f = true → findIn G.K (.ref G.C) f = some none
  gl : ∀ x v, G.gl x = some v → ∃ c mg mb, P.B.Ns mainGlobals mg ∧ P.B.Ns builtinsNs mb ∧ (mg x = some c ∨ (mg x = none ∧ mb x = some c)) ∧ ∀ W n, VR W n v c

/-- the program's own functions answer as fns says -/
noncomputable def FnsOk (P : Par) (lv : Nat) (fns : Fns) : Prop := ∀ fr A env, Fm P lv fr A env → ∀ W σ s, Inv P fr W σ.toHp s → Loc P env W σ s.heap → ∀ a args cargs, VRs W σ.nxt args cargs → (fns a args σ.toHp).lift σ ≠ .bad →
    Keeps P.M A (.ref a) s ∧ wpAny P.M A (call (.ref a) cargs []) (Post P fr env W σ s ((fns a args σ.toHp).lift σ)) NoE s
noncomputable def LamsOk (P : Par) (lv : Nat) (lam : Lams) : Prop := ∀ fr A env, Fm P lv fr A env → ∀ W σ s, Inv P fr W σ.toHp s → Loc P env W σ s.heap → ∀ ps x cs cf args cargs, VR W σ.nxt (.clo ps x cs) cf → VRs W σ.nxt args cargs → (lam ps x cs args σ.toHp).lift σ ≠ .bad →
    Keeps P.M A cf s ∧ wpAny P.M A (call cf cargs []) (Post P fr env W σ s ((lam ps x cs args σ.toHp).lift σ)) NoE s

section
variable {P : Par} {fr : List Nat} {A : Around} {env : Env} {W W' : Wd} {σ σ' : St} {s s' : Shared} {G : Prg} {lv : Nat} {fns : Fns} {lam : Lams}

theorem instOf_some {o : V} {H : Hp} {k d : Nat} {fs : List (Str × V)} (h : instOf G o H = some (k, d, fs)) : o = .ref k ∧ H.obj k = some (.inst G.C d) ∧ H.obj d = some (.dict fs) := by
  unfold instOf at h
  split at h
  · split at h
    · rename_i hk
      split at h
      · rename_i hd
        split at h
        · rename_i hC; cases h; exact ⟨rfl, hC ▸ hk, hd⟩
        · cases h
      · cases h
    · cases h
  · cases h

theorem handed_ok {W : Wd} {n : Nat} {v : V} {c : Value} (h : handedV v = true) (hv : VR W n v c) : handedIn c = true := by
  cases hv with
  | top => exact h
  | _ => rfl

theorem app_ok (Q : PrgOk P G) (hF : FnsOk P lv fns) (hM : LamsOk P lv lam) (F : Fm P lv fr A env) (I : Inv P fr W σ.toHp s) (L : Loc P env W σ s.heap) {f : V} {args : List V} {cf : Value} {cargs : List Value} (hf : VR W σ.nxt f cf) (ha : VRs W σ.nxt args cargs) (hne : (appV G fns lam f args σ.toHp).lift σ ≠ .bad) :
    Keeps P.M A cf s ∧ wpAny P.M A (call cf cargs []) (Post P fr env W σ s ((appV G fns lam f args σ.toHp).lift σ)) NoE s := by
  revert hne
  unfold appV
  split
  · rename_i i
    obtain rfl := hf.inv_top
    intro hne
    refine ⟨keeps_builtin, ?_⟩
    revert hne
    unfold bapp
    split
    · rename_i hi; subst hi
      split
      · intro hne; obtain ⟨_, rfl, h1⟩ := ha.inv1; exact len_ok I L h1 hne
      · intro hne; exact absurd rfl hne
    split
    · rename_i hi; subst hi
      intro hne; exact rfind_ok I L ha hne
    split
    · rename_i hi; subst hi
      split
      · intro hne; obtain ⟨_, _, rfl, h1, h2⟩ := ha.inv2; exact append_ok I L F.hL h1 h2 hne
      · intro hne; exact absurd rfl hne
    split
    · rename_i hi; subst hi
      split
      · intro hne; obtain ⟨_, rfl, h1⟩ := ha.inv1; exact chr_ok I L h1 hne
      · intro hne; exact absurd rfl hne
    split
    · rename_i hi; subst hi
      split
      · intro hne; obtain ⟨_, _, rfl, h1, h2⟩ := ha.inv2; exact index_ok I L h1 h2 hne
      · intro hne; exact absurd rfl hne
    split
    · rename_i hi; subst hi
      split
      · intro hne; obtain ⟨_, rfl, h1⟩ := ha.inv1; exact start_ok' I L h1 hne
      · intro hne; exact absurd rfl hne
    split
    · rename_i hi; subst hi
      split
      · intro hne; obtain ⟨_, rfl, h1⟩ := ha.inv1; exact span_ok I L h1 hne
      · intro hne; exact absurd rfl hne
    · intro hne; exact absurd rfl hne
  · rename_i i
    obtain rfl := hf.inv_top
    intro hne
    refine ⟨keeps_type, ?_⟩
    revert hne
    unfold tapp
    split
    · rename_i hi; subst hi
      intro hne; exact range_ok I L ha hne
    · intro hne; exact absurd rfl hne
  · rename_i a
    obtain rfl := hf.inv_top
    split
    · rename_i hi
      subst hi
      intro hne
      obtain ⟨pt, hb, hp⟩ := Q.srch
      exact ⟨fun E R hq => keeper_bound (I.keep _ _ hb) hq, search_ok hb hp I L ha hne⟩
    · exact fun hne => hF fr A env F W σ s I L a args cargs ha hne
  · exact fun hne => hM fr A env F W σ s I L _ _ _ _ args cargs hf ha hne
  · intro hne; exact absurd rfl hne

theorem get_ok (Q : PrgOk P G) (I : Inv P fr W σ.toHp s) (L : Loc P env W σ s.heap) {o : V} {m : Str} {co : Value} {vf : V} {first : List V} (ho : VR W σ.nxt o co) (hg : getV G o m σ.toHp = some (vf, first)) {pl : Sem Bool} {E : Value → Shared → Prop} {R : Value × List Value → Shared → Prop}
    (hQ : ∀ r s' W', Step P fr env W σ s W' σ s' → VR W' σ.nxt vf r.1 → VRs W' σ.nxt first r.2 → R r s') : wpAny P.M A (getMethod co m pl) R E s := by
  unfold getV at hg
  split at hg
  · rename_i x
    obtain ⟨i, e4, e5⟩ := Option.map_eq_some_iff.mp hg
    cases e5
    obtain ⟨t, rfl, h1, h2⟩ := ho.inv_str
    · unfold strMeth at e4
      split at e4
      · rename_i hm; subst hm; cases e4
        exact getMethod_builtin (typeIs_str s x t) PySem.F.plainAttrs_str PySem.F.slot_str_rfind PySem.F.type_str_rfind (fun a e => by cases e) (hQ _ s W (Step.refl I L) (.top _) (.cons (.str _ _ h1 h2) .nil))
      · cases e4
  · rename_i p e
    obtain ⟨i, e4, e5⟩ := Option.map_eq_some_iff.mp hg
    cases e5
    obtain ⟨a, ob, rfl, X, h1, h2, h3⟩ := mt_at I ho
    unfold mtMeth at e4
    split at e4
    · rename_i hm; subst hm; cases e4
      exact getMethod_builtin ⟨ob, h1, h2⟩ plainAttrs_match slot_start type_start (fun a e => by cases e; exact ⟨ob, h1, h3⟩) (hQ _ s W (Step.refl I L) (.top _) (.cons ho .nil))
    · split at e4
      · rename_i hm; subst hm; cases e4
        exact getMethod_builtin ⟨ob, h1, h2⟩ plainAttrs_match slot_span type_span (fun a e => by cases e; exact ⟨ob, h1, h3⟩) (hQ _ s W (Step.refl I L) (.top _) (.cons ho .nil))
      · cases e4
  · rename_i xs
    obtain ⟨i, e4, e5⟩ := Option.map_eq_some_iff.mp hg
    cases e5
    obtain ⟨a, o, rfl, hl, hc, hd⟩ := ho.inv_list
    have hl := (I.frz _ _ hl).1
    unfold frozMeth at e4
    split at e4
    · rename_i hm; subst hm; cases e4
      exact getMethod_builtin ⟨o, hl, hc⟩ PySem.F.plainAttrs_list PySem.F.slot_list_index PySem.F.type_list_index (fun a e => by cases e; exact ⟨o, hl, hd⟩) (hQ _ s W (Step.refl I L) (.top _) (.cons ho .nil))
    · cases e4
  · rename_i k
    obtain ⟨rfl, hk⟩ := ho.inv_ref
    split at hg
    · rename_i k' d fs hi
      obtain ⟨e0, h1, h2⟩ := instOf_some hi
      cases e0
      split at hg
      · rename_i hl
        obtain ⟨g, e1, e2⟩ := Option.map_eq_some_iff.mp hg
        cases e2
        exact get_meth Q.cls I h1 h2 (Q.meth m g e1).1 (Q.meth m g e1).2 hl (hQ _ s W (Step.refl I L) (.top _) (.cons (.ref hk) .nil))
      · cases hg
    · split at hg
      · rename_i xs e2
        obtain ⟨i, e4, e5⟩ := Option.map_eq_some_iff.mp hg
        cases e5
        obtain ⟨_, ob, hob, hr⟩ := I.obj _ _ e2
        obtain ⟨items, e, rfl, r, z⟩ := hr.inv_list
        · unfold listMeth at e4
          split at e4
          · rename_i hm; subst hm; cases e4
            exact getMethod_builtin ⟨_, hob, rfl⟩ PySem.F.plainAttrs_list PySem.F.slot_list_append PySem.F.type_list_append (fun a e => by cases e; exact ⟨_, hob, rfl⟩) (hQ _ s W (Step.refl I L) (.top _) (.cons (.ref hk) .nil))
          · cases e4
      · cases hg
  · cases hg

theorem mk_ok (Q : PrgOk P G) (hF : FnsOk P lv fns) (hM : LamsOk P lv lam) : SxOk P (mk G lv fns lam) := by
  refine ⟨⟨Q.lam, Q.gl, fun fr A env F W σ s I L f args cf cargs hf ha hne => app_ok Q hF hM F I L hf ha hne, fun fr A env F W σ s I L o m co vf first ho hg pl E R hQ => get_ok Q I L ho hg hQ, ?_⟩, ?_⟩
  · intro fr A env F W σ s I L o f co ho hne
    revert hne
    show (fldV G o f σ.toHp).st σ ≠ .bad → wpAny _ _ _ (Post P fr env W σ s ((fldV G o f σ.toHp).st σ)) NoE s
    unfold fldV
    split
    · rename_i k d fs hi
      obtain ⟨rfl, h1, h2⟩ := instOf_some hi
      split
      · rename_i hf
        have f1 := Q.fld f hf
        obtain ⟨rfl, hk⟩ := ho.inv_ref
        · split
          · rename_i v hv
            split
            · rename_i hh
              intro _
              exact get_field Q.cls I h1 h2 f1 hv (fun c hc => handed_ok hh hc) fun c t hc => ⟨_, σ, W, rfl, Step.toks I L t, hc⟩
            · intro hne; exact absurd rfl hne
          · intro hne; exact absurd rfl hne
      · intro hne; exact absurd rfl hne
    · intro hne; exact absurd rfl hne
  · intro fr A env F W σ s I L o f v co c H ho hv hs E R hQ
    have hs' : setV G o f v σ.toHp = some H := hs
    unfold setV at hs'
    split at hs'
    · rename_i k d fs hi
      obtain ⟨rfl, h1, h2⟩ := instOf_some hi
      split at hs'
      · rename_i hf
        cases hs'
        have f1 := Q.fld f hf.1
        obtain ⟨rfl, hk⟩ := ho.inv_ref
        exact set_field Q.cls I L F.hL h1 h2 f1 hf.2 hv fun s' st => hQ W s' st
      · cases hs'
    · cases hs'
end
end Mine
end
noncomputable section
set_option Elab.async false
set_option linter.all false
set_option maxRecDepth 100000
namespace Mine
open PySem PySem.W PyProof.Rows

/-! ## the program's functions, level by level -/
noncomputable def fnAt (K : Frag) (f : Addr) : Option FuncData := match K.lookup f with
  | some ⟨_, _, .func fd, _⟩ => some fd
  | _ => none
noncomputable def codeB (K : Frag) (cd : Value) (q : Str) : Bool := match cd with
  | .ref c => (match K.lookup c with
    | some ⟨_, _, .fields vs, _⟩ => (match (vs[1]? : Option Value) with | some (.str x _) => x == q | _ => false)
    | _ => false)
  | _ => false
noncomputable def FnRow (K : Frag) (f : Addr) (sc : Scope) (ps : List Str) (b : S) : Prop :=
  ∃ fd body, fnAt K f = some fd ∧ fd.scope = sc ∧ fd.body = .stmts body ∧ fd.closure = [] ∧ fd.globals = mainGlobals ∧ fd.builtins = builtinsNs ∧ codeB K fd.code fd.qualname = true ∧ fnShape sc ps = true ∧ TieS b sc (.l body) ∧
    ∀ cargs : List Value, cargs.length = ps.length → bindArgs fd ⟨cargs, []⟩ = pure (ps.zip cargs)

noncomputable abbrev Rows := List (Addr × Scope × List Str × S)
noncomputable def tbFor (tb : Option (Addr × Str)) (a : Addr) : Option Str := tb.bind fun p => if p.1 = a then some p.2 else none
noncomputable def rowRun (tb : Option (Addr × Str)) (rows : Rows) (cx : Sx) (a : Addr) (args : List V) (H : Hp) : Rs V := match rows.lookup a with
  | some (sc, ps, b) => runFn sc ps b (tbFor tb a) cx args H
  | none => .bad
/-- the table is that function's -/
noncomputable def TabOk (P : Par) (G : Prg) : Prop := ∀ f q fd, G.tb = some (f, q) → fnAt G.K f = some fd → fd.qualname ++ ".<locals>." ++ Str.ofString "<lambda>" = q ∧ ∃ c, fd.code = .ref c ∧ CodeHd P.B c P.T
noncomputable def tower (G : Prg) (rows : Rows) (fI : Addr) : Nat → Sx
  | 0 => mk G 0 (fun _ _ _ => .bad) (fun _ _ _ _ _ => .bad)
  | 1 => mk G 1 (rowRun G.tb rows (tower G rows fI 0)) (fun ps x cs args H => runLam ps x cs (tower G rows fI 0).toCx args H)
  | n + 2 => mk G (n + 2) (fun a args H => if a = G.C then makeV G.C (rowRun G.tb rows (tower G rows fI n) fI) args H
    else rowRun G.tb rows (tower G rows fI (n + 1)) a args H) (fun ps x cs args H => runLam ps x cs (tower G rows fI (n + 1)).toCx args H)

section
variable {P : Par} {fr : List Nat} {A : Around} {env : Env} {W W' : Wd} {σ σ' : St} {s s' : Shared} {G : Prg} {rows : Rows} {fI : Addr}

theorem tower_lvl : ∀ n, (tower G rows fI n).lvl = n
  | 0 => by unfold tower; rfl
  | 1 => by unfold tower; rfl
  | _ + 2 => by unfold tower; rfl

theorem fn_ok {K : Frag} {f : Addr} {sc : Scope} {ps : List Str} {b : S} (X : K.In P.B) (hl : P.B.NoLimit) (h : FnRow K f sc ps b) {tb : Option Str} (hT : ∀ q fd, tb = some q → fnAt K f = some fd → fd.qualname ++ ".<locals>." ++ Str.ofString "<lambda>" = q ∧ ∃ c, fd.code = .ref c ∧ CodeHd P.B c P.T) : ∃ fd body, FnOk P f fd ps body tb ∧ fd.scope = sc ∧ TieS b sc (.l body) := by
  obtain ⟨fd, body, h1, h2, h3, h4, h5, h6, h7, h8, h9, h10⟩ := h
  refine ⟨fd, body, ⟨fun q hq => hT q fd hq h1, ?_, hl, ?_, h3, h4, h5, h6, fun s _ cargs hc => BindsTo.of_eq (h10 cargs hc), by rw [h2]; exact h8⟩, h2, h9⟩
  · unfold fnAt at h1
    split at h1
    · rename_i ho; cases h1; exact ⟨_, X _ _ ho, rfl⟩
    · cases h1
  · unfold codeB at h7
    split at h7
    · split at h7
      · rename_i ho
        split at h7
        · rename_i x t hv
          have : x = fd.qualname := by simpa using h7
          subst this
          exact ⟨_, _, _, t, by assumption, X _ _ ho, rfl, hv⟩
        · cases h7
      · cases h7
    · cases h7

theorem row_code (X : G.K.In P.B) (hT : TabOk P G) (hlim : P.B.NoLimit) (hR : ∀ a sc ps b, rows.lookup a = some (sc, ps, b) → FnRow G.K a sc ps b) {cx : Sx} (C : SxOk P cx)
    (F : Fm P (cx.lvl + 1) fr A env) (I : Inv P fr W σ.toHp s) (L : Loc P env W σ s.heap) {a : Addr} {args : List V} {cargs : List Value} (ha : VRs W σ.nxt args cargs) (hne : (rowRun G.tb rows cx a args σ.toHp).lift σ ≠ .bad) :
    Keeps P.M A (.ref a) s ∧ codeAny P.M A (.call (.ref a) ⟨cargs, []⟩) (fun r s' => match r with | .ok (.ret v) => Post P fr env W σ s ((rowRun G.tb rows cx a args σ.toHp).lift σ) v s' | .ok _ => False | .error e => NoE e s') s := by
  cases hq : rows.lookup a with
  | none =>
    have : rowRun G.tb rows cx a args σ.toHp = .bad := by unfold rowRun; rw [hq]
    rw [this] at hne; exact absurd rfl hne
  | some r =>
    obtain ⟨sc, ps, b⟩ := r
    have he : rowRun G.tb rows cx a args σ.toHp = runFn sc ps b (tbFor G.tb a) cx args σ.toHp := by unfold rowRun; rw [hq]
    rw [he] at hne ⊢
    obtain ⟨fd, body, K, rfl, hb⟩ := fn_ok X hlim (hR _ _ _ _ hq) (tb := tbFor G.tb a) (fun q fd h1 h2 => by
      unfold tbFor at h1
      obtain ⟨⟨f, q'⟩, e1, e2⟩ := Option.bind_eq_some_iff.mp h1
      by_cases hf : f = a
      · subst hf
        have e2' : (if f = f then some q' else none) = some q := e2
        rw [if_pos rfl] at e2'
        cases e2'
        exact hT f q fd e1 h2
      · have e2' : (if f = a then some q' else none) = some q := e2
        rw [if_neg hf] at e2'; cases e2')
    exact ⟨(call_def K C hb F I L ha hne).1, call_code K C hb F I L ha hne⟩

theorem lams_ok (hlim : P.B.NoLimit) {cx : Sx} (C : SxOk P cx) : LamsOk P (cx.lvl + 1) (fun ps x cs args H => runLam ps x cs cx.toCx args H) :=
  fun fr A env F W σ s I L ps x cs cf args cargs hv ha hne => call_clo C.base hlim F I L hv ha hne

theorem tower_ok (Q : PrgOk P G) (hT : TabOk P G) (hlim : P.B.NoLimit) (hR : ∀ a sc ps b, rows.lookup a = some (sc, ps, b) → FnRow G.K a sc ps b) (hi : findIn G.K (.ref G.C) "__init__" = some (some (.ref fI))) (hf : typeIn G.K (.ref fI) = some (.type "function")) :
    ∀ n, SxOk P (tower G rows fI n)
  | 0 => by
    unfold tower
    exact mk_ok Q (fun fr A env F W σ s I L a args cargs ha hne => absurd rfl hne) (fun fr A env F W σ s I L ps x cs cf args cargs hv ha hne => absurd rfl hne)
  | 1 => by
    have C := tower_ok Q hT hlim hR hi hf 0
    have l1 := tower_lvl (G := G) (rows := rows) (fI := fI) 0
    have M := lams_ok hlim C
    rw [l1] at M
    unfold tower
    refine mk_ok Q (fun fr A env F W σ s I L a args cargs ha hne => ?_) M
    obtain ⟨k, c⟩ := row_code Q.cls.inn hT hlim hR C (by rw [l1]; exact F) I L ha hne
    exact ⟨k, wpAny_call c⟩
  | n + 2 => by
    have C := tower_ok Q hT hlim hR hi hf (n + 1)
    have l1 := tower_lvl (G := G) (rows := rows) (fI := fI) (n + 1)
    have C' := tower_ok Q hT hlim hR hi hf n
    have l3 := tower_lvl (G := G) (rows := rows) (fI := fI) n
    have M := lams_ok hlim C
    rw [l1] at M
    unfold tower
    refine mk_ok Q (fun fr A env F W σ s I L a args cargs ha hne => ?_) M
    by_cases hC : a = G.C
    · subst hC
      rw [if_pos rfl] at hne
      simp only [if_true]
      refine make_inst (lv := n + 1) Q.cls hi hf (fun fr A env F W σ s I L args cargs ha hne => ?_) F I L ha hne
      exact (row_code Q.cls.inn hT hlim hR C' (by rw [l3]; exact F) I L ha hne).2
    · rw [if_neg hC] at hne
      simp only [if_neg hC]
      obtain ⟨k, c⟩ := row_code Q.cls.inn hT hlim hR C (by rw [l1]; exact F) I L ha hne
      exact ⟨k, wpAny_call c⟩
end
end Mine
end
noncomputable section
set_option Elab.async false
set_option linter.all false
set_option maxRecDepth 100000
namespace Mine
open PySem PySem.W PyProof.Rows

/-! ## the start of a law's frame -/
theorem cellsFrom_sub : ∀ (names : List (Str × NameKind)) (m : Nat) (ac : List (Str × Addr)), ∀ p ∈ ac, p ∈ cellsFrom m names ac := by
  intro names
  induction names with
  | nil => exact fun _ _ _ h => h
  | cons hd tl ih =>
    intro m ac p h
    obtain ⟨y, ky⟩ := hd
    unfold cellsFrom
    split
    · exact ih _ _ _ (.tail _ h)
    · exact ih _ _ _ h

theorem cells0 {bv : List (Str × V)} {L : Nat} : ∀ (names : List (Str × NameKind)) (acc : List (Str × Addr)) (cel : List (Str × Nat)) (H : Hp), (∀ k, H.nxt ≤ k → H.obj k = none) → (∀ x k, cel.lookup x = some k → k < H.nxt ∧ acc.lookup x = some (L + 1 + k)) →
    (∀ k, (cellsH bv names H cel).1.nxt ≤ k → (cellsH bv names H cel).1.obj k = none) ∧ H.nxt ≤ (cellsH bv names H cel).1.nxt ∧
    (∀ x k, (cellsH bv names H cel).2.lookup x = some k → k < (cellsH bv names H cel).1.nxt ∧ (cellsFrom (L + 1 + H.nxt) names acc).lookup x = some (L + 1 + k)) ∧
    (∀ k, k < H.nxt → (cellsH bv names H cel).1.obj k = H.obj k) ∧
    (∀ k, H.nxt ≤ k → k < (cellsH bv names H cel).1.nxt → ∃ x, (x, L + 1 + k) ∈ cellsFrom (L + 1 + H.nxt) names acc ∧ (cellsH bv names H cel).1.obj k = some (.cell (bv.lookup x)) ∧ (x, NameKind.cell) ∈ names)
  | [], acc, cel, H, h1, h2 => ⟨h1, Nat.le_refl _, h2, fun _ _ => rfl, fun k a b => absurd b (Nat.not_lt.mpr a)⟩
  | (x, kd) :: r, acc, cel, H, h1, h2 => by
    unfold cellsH cellsFrom
    by_cases hk : (kd == NameKind.cell) = true
    · simp only [if_pos hk]
      have ih := cells0 (bv := bv) (L := L) r ((x, L + 1 + H.nxt) :: acc) ((x, H.nxt) :: cel) (H.add (.cell (bv.lookup x))) (fun k hk' => by
          have hk'' : H.nxt + 1 ≤ k := hk'
          show (if k = H.nxt then _ else H.obj k) = none
          rw [if_neg (by omega)]; exact h1 k (by omega)) (fun y k hy => by
          simp only [List.lookup] at hy ⊢
          cases hq : y == x with
          | true => rw [hq] at hy; cases hy; exact ⟨Nat.lt_succ_self _, rfl⟩
          | false => rw [hq] at hy; exact ⟨Nat.lt_succ_of_lt (h2 y k hy).1, (h2 y k hy).2⟩)
      have en : L + 1 + (H.add (.cell (bv.lookup x))).nxt = L + 1 + H.nxt + 1 := rfl
      rw [en] at ih
      obtain ⟨i1, i2, i3, i4, i5⟩ := ih
      have i2' : H.nxt + 1 ≤ (cellsH bv r (H.add (.cell (bv.lookup x))) ((x, H.nxt) :: cel)).1.nxt := i2
      refine ⟨i1, by omega, i3, fun k hk' => ?_, fun k a b => ?_⟩
      · rw [i4 k (Nat.lt_succ_of_lt hk')]
        show (if k = H.nxt then _ else H.obj k) = _
        rw [if_neg (by omega)]
      · by_cases hkn : k = H.nxt
        · subst hkn
          refine ⟨x, cellsFrom_sub _ _ _ _ (.head _), ?_, by rw [show kd = NameKind.cell from by simpa using hk]; exact .head _⟩
          rw [i4 _ (Nat.lt_succ_self _)]
          show (if H.nxt = H.nxt then _ else _) = _
          rw [if_pos rfl]
        · obtain ⟨y, j1, j2, j3⟩ := i5 k (by show H.nxt + 1 ≤ k; omega) b
          exact ⟨y, j1, j2, .tail _ j3⟩
    · simp only [if_neg hk]
      obtain ⟨i1, i2, i3, i4, i5⟩ := cells0 (bv := bv) (L := L) r acc cel H h1 h2
      exact ⟨i1, i2, i3, i4, fun k a b => let ⟨y, j1, j2, j3⟩ := i5 k a b; ⟨y, j1, j2, .tail _ j3⟩⟩

theorem filter_lookup {names : List (Str × NameKind)} {y : Str} {v : V} : ∀ {l : List (Str × V)}, (l.filter (fun p => names.lookup p.1 == some .local)).lookup y = some v → names.lookup y = some .local ∧ l.lookup y = some v
  | [], h => by cases h
  | (z, u) :: tl, h => by
    simp only [List.filter] at h
    cases hz : (names.lookup z == some NameKind.local) with
    | true =>
      rw [hz] at h
      simp only [List.lookup] at h ⊢
      cases hq : y == z with
      | true =>
        rw [hq] at h
        have e : y = z := by simpa using hq
        subst e
        exact ⟨by simpa using hz, h⟩
      | false => rw [hq] at h; exact filter_lookup h
    | false =>
      rw [hz] at h
      obtain ⟨p1, p2⟩ := filter_lookup h
      refine ⟨p1, ?_⟩
      simp only [List.lookup]
      cases hq : y == z with
      | true =>
        have e : y = z := by simpa using hq
        subst e
        rw [p1] at hz; simp at hz
      | false => exact p2

theorem cells_ge {bv : List (Str × V)} {n : Nat} : ∀ (names : List (Str × NameKind)) (H : Hp) (cel : List (Str × Nat)), n ≤ H.nxt → (∀ x k, cel.lookup x = some k → n ≤ k) → ∀ x k, (cellsH bv names H cel).2.lookup x = some k → n ≤ k
  | [], _, _, _, h => h
  | (y, kd) :: r, H, cel, hn, h => by
    unfold cellsH
    split
    · refine cells_ge r _ _ (Nat.le_succ_of_le hn) fun x k hx => ?_
      simp only [List.lookup] at hx
      cases hq : x == y with
      | true => rw [hq] at hx; cases hx; exact hn
      | false => rw [hq] at hx; exact h x k hx
    · exact cells_ge r H cel hn h

/-- where a law's things lie at its start: the table, and the cells behind the frame -/
noncomputable def W0 (T L : Nat) (fz : Nat → Option Obj) : Wd := ⟨fun k => if k = 0 then T else L + k, fz⟩
noncomputable def H0 (q : Str) : Hp := ⟨fun k => if k = 0 then some (.tab q) else none, 1⟩
noncomputable def lawSt (sc : Scope) (q : Str) (bv : List (Str × V)) : St := entry sc bv (H0 q)

theorem start_ok {P : Par} {sc : Scope} {ps : List Str} {args : List V} {cargs : List Value} {cenv : Env} {s : Shared} {T L : Nat} {q : Str} {fz : Nat → Option Obj} (hsh : fnShape sc ps = true)
    (c1 : cenv.scope = sc) (c2 : cenv.locals = L) (c3 : cenv.cells = cellsFrom (L + 1) sc.names []) (c4 : cenv.globals = mainGlobals) (c5 : cenv.builtins = builtinsNs) (hL : P.B.objs.size = L) (hTL : T < L)
    (hn : s.heap.Ns L (bindL cenv.kindOf (ps.zip cargs) fun _ => none)) (hk : ∀ b o, P.B.get? b = some o → s.heap.get? b = some o)
    (hc : ∀ x c, (x, c) ∈ cellsFrom (L + 1) sc.names [] → s.heap.IsCell c (bindC cenv.kindOf (ps.zip cargs) (fun _ => none) x))
    (hfz : ∀ a o, fz a = some o → P.B.get? a = some o) (ha : VRs (W0 T L fz) 0 args cargs) (hg : s.gens = #[]) (ho : s.os = P.os)
    (hT : P.B.get? T = none) (hT' : s.heap.get? T = some (tabObj #[])) (hPT : T = P.T) :
    Inv P [L] (W0 T L fz) (lawSt sc q (ps.zip args)).toHp s ∧ Loc P cenv (W0 T L fz) (lawSt sc q (ps.zip args)) s.heap ∧ ScOk sc cenv := by
  simp only [fnShape, Bool.and_eq_true, beq_iff_eq, Bool.not_eq_true'] at hsh
  obtain ⟨⟨⟨⟨⟨⟨k1, k2⟩, k3⟩, k4⟩, k5⟩, k6⟩, k7⟩ := hsh
  have c7 : ∀ y, cenv.kindOf y = sc.names.lookup y := fun y => by unfold Env.kindOf; rw [c1]
  obtain ⟨L', hL'⟩ : ∃ L', L = L' + 1 := ⟨L - 1, by omega⟩
  obtain ⟨i1, i2, i3, i4, i5⟩ := cells0 (bv := ps.zip args) (L := L') sc.names [] [] (H0 q) (fun k hk => by
    have hk' : 1 ≤ k := hk
    show (if k = 0 then _ else _) = _
    rw [if_neg (by omega)]) (fun x k h => by cases h)
  have en : L' + 1 + (H0 q).nxt = L + 1 := by rw [hL']; rfl
  rw [en] at i3 i5
  have i2' : 1 ≤ (cellsH (ps.zip args) sc.names (H0 q) []).1.nxt := i2
  have big : ∀ a, L ≤ a → P.B.get? a = none := fun a h => Heap.get?_none_of_le (by omega)
  have wl : Wle 0 (W0 T L fz) (W0 T L fz) := .refl ..
  have r0 : (W0 T L fz).ρ 0 = T := rfl
  have rs : ∀ k, k ≠ 0 → (W0 T L fz).ρ k = L + k := fun k h => if_neg h
  have rs' : ∀ k, k ≠ 0 → L' + 1 + k = (W0 T L fz).ρ k := fun k h => by rw [rs k h, hL']
  have o0 : (cellsH (ps.zip args) sc.names (H0 q) []).1.obj 0 = some (.tab q) := by
    rw [i4 0 (by show 0 < 1; omega)]; rfl
  have cellAt : ∀ k, k ≠ 0 → k < (cellsH (ps.zip args) sc.names (H0 q) []).1.nxt → ∃ o ob, (cellsH (ps.zip args) sc.names (H0 q) []).1.obj k = some o ∧ s.heap.get? ((W0 T L fz).ρ k) = some ob ∧ OR (W0 T L fz) (cellsH (ps.zip args) sc.names (H0 q) []).1.nxt o ob := fun k hk0 h => by
    obtain ⟨x, j1, j2, j3⟩ := i5 k (by show 1 ≤ k; omega) h
    obtain ⟨ob, e1, d1⟩ := hc x _ j1
    rw [rs' k hk0] at e1
    refine ⟨_, ob, j2, e1, ?_⟩
    have hl' : sc.names.lookup x = some .cell := keyed_lookup k4 j3
    rw [bindC_at (by rw [c7, hl']; intro q; cases q) k6] at d1
    have hr := zip_rel x ps ha
    revert d1 hr
    cases (ps.zip args).lookup x with
    | none => cases (ps.zip cargs).lookup x with
      | none => exact fun d1 _ => .nocell d1
      | some _ => exact fun _ q => q.elim
    | some v => cases (ps.zip cargs).lookup x with
      | none => exact fun _ q => q.elim
      | some c => exact fun d1 q => .cell d1 (VR.mono wl (Nat.zero_le _) q)
  have tabAt : OR (W0 T L fz) (cellsH (ps.zip args) sc.names (H0 q) []).1.nxt (.tab q) (tabObj #[]) := .tab ⟨trivial, fun pos cv e => by cases e⟩
  refine ⟨⟨hk, fun k _ => ?_, fun k h => ?_, fun k _ q => ?_, fun k _ => ?_, fun i j _ _ q => ?_, fun k o h => ?_, fun a c h => ⟨hk a c (hfz a c h), fun q => ?_⟩, fun a h => ?_, hg, ho, i2', hPT⟩, ⟨by rw [c1]; exact k1, c4, c5, ⟨_, by rw [c2]; exact hn, fun y v h => ?_⟩, fun y k h => ?_, fun k q' h => ?_⟩, ?_⟩
  · by_cases h0 : k = 0
    · subst h0; rw [r0]; exact hT
    · rw [rs k h0]; exact big _ (by omega)
  · by_cases h0 : k = 0
    · subst h0; rw [r0]; exact ⟨_, hT'⟩
    · obtain ⟨o, ob, _, e, _⟩ := cellAt k h0 h; exact ⟨ob, e⟩
  · have q' : (W0 T L fz).ρ k = L := by simpa using q
    by_cases h0 : k = 0
    · subst h0; rw [r0] at q'; omega
    · rw [rs k h0] at q'; omega
  · cases hq : fz ((W0 T L fz).ρ k) with
    | none => exact hq
    | some o =>
      have := hfz _ _ hq
      by_cases h0 : k = 0
      · subst h0; rw [r0, hT] at this; cases this
      · rw [rs k h0, big _ (by omega)] at this; cases this
  · by_cases hi : i = 0 <;> by_cases hj : j = 0
    · rw [hi, hj]
    · subst hi; rw [r0, rs j hj] at q; omega
    · subst hj; rw [r0, rs i hi] at q; omega
    · rw [rs i hi, rs j hj] at q; omega
  · have hlt : k < (cellsH (ps.zip args) sc.names (H0 q) []).1.nxt := by
      refine Nat.not_le.mp fun hle => ?_
      have h' : (cellsH (ps.zip args) sc.names (H0 q) []).1.obj k = some o := h
      rw [i1 k hle] at h'; cases h'
    have h' : (cellsH (ps.zip args) sc.names (H0 q) []).1.obj k = some o := h
    by_cases h0 : k = 0
    · subst h0
      rw [o0] at h'; cases h'
      exact ⟨hlt, _, by rw [r0]; exact hT', tabAt⟩
    · obtain ⟨o', ob, e0, e1, e2⟩ := cellAt k h0 hlt
      rw [e0] at h'; cases h'
      exact ⟨hlt, ob, e1, e2⟩
  · have : a = L := by simpa using q
    subst this
    have := hfz a c h
    rw [big a (Nat.le_refl _)] at this; cases this
  · have : a = L := by simpa using h
    subst this
    obtain ⟨o, es, ep, e1, e2, _⟩ := hn
    exact ⟨big a (Nat.le_refl _), o, e1, fun vs q => by rw [e2] at q; cases q⟩
  · obtain ⟨p1, p2⟩ := filter_lookup (names := sc.names) h
    have hr := zip_rel y ps ha
    rw [p2] at hr
    refine ⟨by rw [c7]; exact p1, ?_⟩
    cases h1 : (ps.zip cargs).lookup y with
    | none => rw [h1] at hr; exact hr.elim
    | some c =>
      rw [h1] at hr
      refine ⟨c, ?_, VR.mono wl (Nat.zero_le _) hr⟩
      rw [bindL_at k6, c7, p1, h1]
      rfl
  · obtain ⟨p, q'⟩ := i3 y k h
    refine ⟨p, fun _ => ?_⟩
    rw [c3, q']
    have h1 := cells_ge (bv := ps.zip args) (n := 1) sc.names (H0 q) [] (Nat.le_refl _) (fun x k h => by cases h) y k h
    rw [rs' k (by omega)]
  · cases h
  · refine ⟨fun y h => by rw [c7]; exact h, fun y h => by rw [c7]; exact h, fun y h => by rw [c7]; exact h, fun y h => by rw [c7]; exact h, fun y h => ?_⟩
    rw [c7] at h
    rw [c3]
    rcases h with h | h
    · exact Option.isSome_iff_exists.mp (cells_some (n := L + 1) (acc := []) (.inr (mem_of_lookupK h)))
    · have := List.all_eq_true.mp k5 _ (mem_of_lookupK h)
      simp at this
end Mine
end
noncomputable section
set_option Elab.async false
set_option linter.all false
set_option maxRecDepth 100000
namespace Mine
open PySem PySem.W PyProof.Rows

theorem law_run {P : Par} {sc : Scope} {ps : List Str} {args : List V} {cargs : List Value} {cenv : Env} {s : Shared} {T L : Nat} {q : Str} {fz : Nat → Option Obj} {cx : Sx} {b : S} {body : List Stmt} {v : V} {σ' : St} {Q : Flow → Shared → Prop} {E : Value → Shared → Prop}
    (hsh : fnShape sc ps = true) (c1 : cenv.scope = sc) (c2 : cenv.locals = L) (c3 : cenv.cells = cellsFrom (L + 1) sc.names []) (c4 : cenv.globals = mainGlobals) (c5 : cenv.builtins = builtinsNs) (c6 : cenv.frame = some L) (hL : P.B.objs.size = L) (hTL : T < L)
    (hn : s.heap.Ns L (bindL cenv.kindOf (ps.zip cargs) fun _ => none)) (hk : ∀ b o, P.B.get? b = some o → s.heap.get? b = some o)
    (hc : ∀ x c, (x, c) ∈ cellsFrom (L + 1) sc.names [] → s.heap.IsCell c (bindC cenv.kindOf (ps.zip cargs) (fun _ => none) x))
    (hfz : ∀ a o, fz a = some o → P.B.get? a = some o) (ha : VRs (W0 T L fz) 0 args cargs) (hg : s.gens = #[]) (ho : s.os = P.os)
    (hT : P.B.get? T = none) (hT' : s.heap.get? T = some (tabObj #[])) (hPT : T = P.T)
    (C : SxOk P cx) (hl5 : cx.lvl ≤ 20) (hb : TieS b sc (.l body)) (hex : ex b cx (lawSt sc q (ps.zip args)) = .ok (.ret v) σ') (htab : σ'.obj 0 = some (.tab q))
    (hQ : ∀ W c s' ps', VR W σ'.nxt v c → (∀ b o, P.B.get? b = some o → s'.heap.get? b = some o) → s'.heap.get? T = some (tabObj ps') → s'.os = P.os → s'.gens = #[] → Q (.ret c) s') :
    wpAny P.M (callerA.deeper cenv) (execs body cenv) Q E s := by
  obtain ⟨I, Lc, Sc⟩ := start_ok (q := q) hsh c1 c2 c3 c4 c5 hL hTL hn hk hc hfz ha hg ho hT hT' hPT
  have hshk : sc.kind = .function := Lc.kind ▸ c1 ▸ rfl
  have F : FmS P cx.lvl [L] (callerA.deeper cenv) cenv := by
    refine ⟨⟨by rw [c2]; exact .head _, rfl, ?_, ?_, [cenv], rfl, fun e he => ?_⟩, ⟨[], rfl⟩, by rw [c2]; exact c6⟩
    · show 4 + 3 + 20 * cx.lvl + 200 < cLine
      unfold cLine; omega
    · show 1 + claimMargin + 1 + 10 * cx.lvl + 100 < recursionLimit
      have : 1 + claimMargin + 1 + 10 * 20 + 100 < recursionLimit := by decide
      omega
    · have : e = cenv := by simpa using he
      subst this
      exact ⟨by rw [c1, hshk]; decide, L, c6, .head _⟩
  refine wpAny_mono (soundS hb cx C [L] _ cenv F Sc (W0 T L fz) _ s I Lc (by rw [hex]; intro q; cases q)) (fun f s' ⟨v', σ₂, W₂, e, st, hf⟩ => ?_) (fun e s' h => h.elim)
  rw [hex] at e
  cases e
  obtain ⟨_, ob, h1, h2⟩ := st.inv.obj 0 _ htab
  have h0 : W₂.ρ 0 = T := st.nx.wle.ρ 0 (by
    show 0 < (cellsH (ps.zip args) sc.names (H0 q) []).1.nxt
    have := (cells0 (bv := ps.zip args) (L := 0) sc.names [] [] (H0 q) (fun k hk => by
      have hk' : 1 ≤ k := hk
      show (if k = 0 then _ else _) = _
      rw [if_neg (by omega)]) (fun x k h => by cases h)).2.1
    have h1 : 1 ≤ (cellsH (ps.zip args) sc.names (H0 q) []).1.nxt := this
    omega)
  rw [h0] at h1
  cases h2 with
  | tab hR =>
  cases hf with
  | ret hv => exact hQ W₂ _ s' _ hv st.inv.keep h1 st.inv.os st.inv.gens
end Mine
end
noncomputable section
set_option Elab.async false
set_option linter.all false
set_option maxRecDepth 100000
namespace Mine
open PySem PySem.W PyProof.Rows

/-! ## plain reasoning about `ex` -/
/-- the run ends well, and Q holds then -/
noncomputable def Gd {α : Type} (r : Rs α) (Q : α → St → Prop) : Prop := ∃ a σ, r = .ok a σ ∧ Q a σ
section
variable {cx : Sx} {σ σ₁ σ₂ : St} {Q : Fl → St → Prop}

theorem Gd.mono {α : Type} {r : Rs α} {Q Q' : α → St → Prop} (h : Gd r Q) (hq : ∀ a σ, Q a σ → Q' a σ) : Gd r Q' := let ⟨a, σ, e, q⟩ := h; ⟨a, σ, e, hq a σ q⟩

theorem gd_seq {a b : S} (h : Gd (ex a cx σ) fun f σ₁ => match f with | .next => Gd (ex b cx σ₁) Q | f => Q f σ₁) : Gd (ex (.seq a b) cx σ) Q := by
  obtain ⟨f, σ₁, e, h⟩ := h
  have hev : ex (.seq a b) cx σ = goOn f σ₁ (ex b cx) := (Rs.bind_ok e : _)
  rw [hev]
  cases f with
  | next => exact h
  | _ => exact ⟨_, σ₁, rfl, h⟩
theorem gd_nil (h : Q .next σ) : Gd (ex .nil cx σ) Q := ⟨_, _, rfl, h⟩
theorem gd_asg {x : Str} {e : X} {v : V} (he : ev cx.toCx e σ = .ok v σ₁) (h : Q .next (σ₁.set x v)) : Gd (ex (.asg x e) cx σ) Q := ⟨_, _, (Rs.bind_ok he : _), h⟩
theorem gd_expr {e : X} {v : V} (he : ev cx.toCx e σ = .ok v σ₁) (h : Q .next σ₁) : Gd (ex (.expr e) cx σ) Q := ⟨_, _, (Rs.bind_ok he : _), h⟩
theorem gd_ret {e : X} {v : V} (he : ev cx.toCx e σ = .ok v σ₁) (h : Q (.ret v) σ₁) : Gd (ex (.ret e) cx σ) Q := ⟨_, _, (Rs.bind_ok he : _), h⟩
theorem gd_own {x : Str} {e : X} {xs : List V} (he : ev cx.toCx e σ = .ok (.list xs) σ₁) (h : Q .next ((σ₁.add (.list xs)).set x (.ref σ₁.nxt))) : Gd (ex (.own x e) cx σ) Q := ⟨_, _, (Rs.bind_ok he : _), h⟩
theorem gd_ownC {x : Str} {e : X} {xs : List V} (he : ev cx.toCx e σ = .ok (.list xs) σ₁) (hs : (σ₁.add (.list xs)).setC x (.ref σ₁.nxt) = some σ₂) (h : Q .next σ₂) : Gd (ex (.ownC x e) cx σ) Q := by
  refine ⟨_, σ₂, (Rs.bind_ok he : _).trans ?_, h⟩
  show optS ((σ₁.add (.list xs)).setC x (.ref σ₁.nxt)) = _
  rw [hs]; rfl
theorem gd_ite {c : X} {a b : S} {v : V} {t : Bool} (he : ev cx.toCx c σ = .ok v σ₁) (ht : truV σ₁.toHp v = some t) (h1 : t = true → Gd (ex a cx σ₁) Q) (h2 : t = false → Gd (ex b cx σ₁) Q) : Gd (ex (.ite c a b) cx σ) Q := by
  have hev : ex (.ite c a b) cx σ = condS v σ₁ (ex a cx) (ex b cx) := (Rs.bind_ok he : _)
  rw [hev]
  unfold condS
  rw [ht]
  cases t with
  | true => exact h1 rfl
  | false => exact h2 rfl
theorem gd_asg2 {x y : Str} {e : X} {a b : V} (he : ev cx.toCx e σ = .ok (.tup [a, b]) σ₁) (h : Q .next ((σ₁.set x a).set y b)) : Gd (ex (.asg2 x y e) cx σ) Q := ⟨_, _, (Rs.bind_ok he : _), h⟩
theorem gd_loop {n : Nat} {c : X} {b : S} (I : Nat → St → Prop) (h0 : I n σ)
    (hb : ∀ k σ, I k σ → ∃ k', k = k' + 1 ∧ ∃ v σ₁ t, ev cx.toCx c σ = .ok v σ₁ ∧ truV σ₁.toHp v = some t ∧ (t = true → Gd (ex b cx σ₁) fun f σ' => match f with | .next => I k' σ' | .brk => Q .next σ' | .ret u => Q (.ret u) σ') ∧ (t = false → Q .next σ₁)) : Gd (ex (.loop n c b .nil) cx σ) Q := by
  have main : ∀ k σ, I k σ → Gd (whileF (tr (ev cx.toCx c)) (ex b cx) (ex .nil cx) k σ) Q := by
    intro k
    induction k with
    | zero => intro σ hI; obtain ⟨k', e, _⟩ := hb 0 σ hI; cases e
    | succ k ih =>
      intro σ hI
      obtain ⟨k', e, v, σ₁, t, e1, e2, h1, h2⟩ := hb _ σ hI
      cases e
      have et : tr (ev cx.toCx c) σ = .ok t σ₁ := by unfold tr; rw [Rs.bind_ok e1]; unfold truRs; rw [e2]
      unfold whileF
      rw [et]
      cases t with
      | true =>
        obtain ⟨f, σ', e3, h3⟩ := h1 rfl
        dsimp only
        rw [e3]
        cases f with
        | next => exact ih σ' h3
        | brk => exact ⟨_, _, rfl, h3⟩
        | ret u => exact ⟨_, _, rfl, h3⟩
      | false => exact ⟨_, _, rfl, h2 rfl⟩
  exact main n σ h0
theorem gd_each {x : Str} {it : X} {b : S} {v : V} {xs : List V} (he : ev cx.toCx it σ = .ok v σ₁) (hi : itsV σ₁.toHp v = some xs) (I : List V → St → Prop) (h0 : I xs σ₁)
    (hst : ∀ l σ, I l σ → itsV σ.toHp v = some xs) (hb : ∀ y r σ, I (y :: r) σ → Gd (ex b cx (σ.set x y)) fun f σ' => match f with | .next => I r σ' | .brk => Q .next σ' | .ret u => Q (.ret u) σ')
    (hend : ∀ σ, I [] σ → Q .next σ) : Gd (ex (.each x it b) cx σ) Q := by
  have hev : ex (.each x it b) cx σ = eachF v xs x (ex b cx) xs σ₁ := by
    show (Rs.bind _ _) = _
    rw [Rs.bind_ok he, hi]
  rw [hev]
  have main : ∀ l σ, I l σ → Gd (eachF v xs x (ex b cx) l σ) Q := by
    intro l
    induction l with
    | nil =>
      intro σ hI
      refine ⟨.next, σ, ?_, hend σ hI⟩
      unfold eachF; rw [if_pos (hst _ _ hI)]
    | cons y r ih =>
      intro σ hI
      obtain ⟨f, σ', e, h⟩ := hb y r σ hI
      unfold eachF
      rw [if_pos (hst _ _ hI), e]
      cases f with
      | next => exact ih σ' h
      | brk => exact ⟨_, _, rfl, h⟩
      | ret u => exact ⟨_, _, rfl, h⟩
  exact main xs σ₁ h0
end
end Mine
end
noncomputable section
set_option Elab.async false
set_option linter.all false
set_option maxRecDepth 100000
namespace Mine
open PySem PySem.W PyProof.Rows

section
variable {cx : Sx} {σ σ₁ σ₂ : St} {Q : Fl → St → Prop}

theorem gd_setA {o : X} {f : Str} {e : X} {v vo : V} {H : Hp} (he : ev cx.toCx e σ = .ok v σ₁) (ho : ev cx.toCx o σ₁ = .ok vo σ₂) (hs : cx.setA vo f v σ₂.toHp = some H) (h : Q .next { σ₂ with toHp := H }) : Gd (ex (.setA o f e) cx σ) Q := by
  refine ⟨_, _, (Rs.bind_ok he : _).trans ((Rs.bind_ok ho : _).trans ?_), h⟩
  show optS ((cx.setA vo f v σ₂.toHp).map _) = _
  rw [hs]; rfl
/-- a comprehension without calls that change anything: its turns -/
theorem turns_pure {v : V} {all : List V} {f : V → St → Rs (Option V)} {g : V → Option V} (hi : itsV σ.toHp v = some all) : ∀ {l : List V}, (∀ y ∈ l, f y σ = .ok (g y) σ) → turns v all f l σ = .ok (l.filterMap g) σ
  | [], _ => by unfold turns; rw [if_pos hi]; rfl
  | y :: r, h => by
    unfold turns
    rw [if_pos hi, h y (.head _)]
    show (turns v all f r σ).bind _ = _
    rw [turns_pure hi fun z hz => h z (.tail _ hz)]
    show Rs.ok _ _ = _
    rw [List.filterMap_cons]
    cases g y <;> rfl
end
end Mine
end
noncomputable section
set_option Elab.async false
set_option linter.all false
set_option maxRecDepth 100000
namespace Mine
open PySem PySem.W PyProof.Rows

/-! ## texts -/
theorem Str.eq_of {a b : PySem.Str} (h : a.cps.toList = b.cps.toList) : a = b := by
  cases a; cases b; simp only at h; congr; exact Array.toList_inj.mp h
theorem Str.beq_list (a b : PySem.Str) : (a == b) = (a.cps.toList == b.cps.toList) := by
  by_cases h : a = b
  · subst h; simp
  · have : a.cps.toList ≠ b.cps.toList := fun q => h (Str.eq_of q)
    rw [beq_eq_false_iff_ne.mpr h, beq_eq_false_iff_ne.mpr this]

/-! ## the operations, evaluated -/
section
variable {H : Hp} {a b : Int} {x y : PySem.Str}
theorem cEqI : cmpV H .Eq (.int a) (.int b) = .ok (.bool (a == b)) := rfl
theorem cNeI : cmpV H .NotEq (.int a) (.int b) = .ok (.bool (a != b)) := rfl
theorem cLtI : cmpV H .Lt (.int a) (.int b) = .ok (.bool (decide (a < b))) := rfl
theorem cEqS : cmpV H .Eq (.str x) (.str y) = .ok (.bool (x.cps.toList == y.cps.toList)) := by
  rw [← Str.beq_list]; rfl
theorem cNeS : cmpV H .NotEq (.str x) (.str y) = .ok (.bool (x.cps.toList != y.cps.toList)) := by
  show Ov.ok (.bool (!(x == y))) = _
  rw [Str.beq_list]; rfl
theorem cIsNN : cmpV H .Is .none .none = .ok (.bool true) := rfl
theorem cIsNI : cmpV H .Is (.int a) .none = .ok (.bool false) := rfl
theorem bAddI : binV H .Add (.int a) (.int b) = .ok (.int (a + b)) := rfl
theorem bSubI : binV H .Sub (.int a) (.int b) = .ok (.int (a - b)) := rfl
theorem bAddL {xs ys : List V} (h : xs.length + ys.length ≤ sizeLine) : binV H .Add (.list xs) (.list ys) = .ok (.list (xs ++ ys)) := by
  show (if _ then _ else _) = _
  rw [if_pos h]
end
end Mine
end
noncomputable section
set_option Elab.async false
set_option linter.all false
set_option maxRecDepth 100000
namespace Mine.Tx
open PySem PySem.Sre Mine.Re

/-! ## a word at a line's head, seen through a window -/
/-- the words at the head of a line, blanks ahead -/
noncomputable def headAt (text : Array Nat) (lim : Nat) (ws : List (List Nat)) (p : Nat) : Option Nat := wordEnd text lim (p + blk text (lim - p) p) ws

structure Win (text : Array Nat) (lim b : Nat) (l : List Nat) (t : Nat) : Prop where
  at' : ∀ i, i ≤ l.length → text.getD (b + i) 0 = (l ++ [t]).getD i 0
  le : b + l.length + 1 ≤ lim

noncomputable def Apart (ws : List (List Nat)) (t : Nat) : Prop := isBlank t = false ∧ ∀ w ∈ ws, t ∉ w

theorem win_self (l : List Nat) (t : Nat) : Win (l ++ [t]).toArray (l.length + 1) 0 l t :=
  ⟨fun i _ => by simp [Array.getD_eq_getD_getElem?], by omega⟩

section
variable {text : Array Nat} {lim b t : Nat} {l : List Nat} {ws : List (List Nat)}

theorem getD_lt {l : List Nat} {t i : Nat} (h : i < l.length) : (l ++ [t]).getD i 0 = l[i] := by
  simp [List.getD_eq_getElem?_getD, List.getElem?_append_left h, h]
theorem getD_eq {l : List Nat} {t : Nat} : (l ++ [t]).getD l.length 0 = t := by
  simp [List.getD_eq_getElem?_getD]

/-- how many blanks lead -/
noncomputable def leadB : List Nat → Nat
  | [] => 0
  | c :: r => if isBlank c = true then leadB r + 1 else 0
theorem leadB_le : ∀ l : List Nat, leadB l ≤ l.length
  | [] => Nat.le_refl _
  | c :: r => by unfold leadB; split; exact Nat.succ_le_succ (leadB_le r); exact Nat.zero_le _

theorem blk_win (ht : isBlank t = false) : ∀ (l : List Nat) (b n : Nat), (∀ i, i ≤ l.length → text.getD (b + i) 0 = (l ++ [t]).getD i 0) → l.length + 1 ≤ n → blk text n b = leadB l
  | [], b, n + 1, h, _ => by
    unfold blk leadB
    have := h 0 (Nat.le_refl _)
    simp only [Nat.add_zero, List.nil_append] at this
    rw [this]
    rw [if_neg (by show ¬ isBlank t = true; rw [ht]; decide)]
  | c :: r, b, n + 1, h, hn => by
    have h0 := h 0 (Nat.zero_le _)
    simp only [Nat.add_zero] at h0
    have h0' : text.getD b 0 = c := by rw [h0]; simp [List.getD_eq_getElem?_getD]
    have ih := blk_win ht r (b + 1) n (fun i hi => by
      have := h (i + 1) (by simpa using hi)
      rw [show b + 1 + i = b + (i + 1) by omega, this]
      simp [List.getD_eq_getElem?_getD]) (by simpa using hn)
    unfold blk leadB
    rw [h0', ih]

/-- the word stands there -/
noncomputable def isPre : List Nat → List Nat → Bool
  | [], _ => true
  | d :: r, c :: l => c == d && isPre r l
  | _ :: _, [] => false
theorem isPre_le : ∀ {w l : List Nat}, isPre w l = true → w.length ≤ l.length
  | [], _, _ => Nat.zero_le _
  | d :: r, c :: l, h => by
    simp only [isPre, Bool.and_eq_true] at h
    exact Nat.succ_le_succ (isPre_le h.2)
  | _ :: _, [], h => by cases h

theorem has_win : ∀ (w l : List Nat) (b : Nat), t ∉ w → (∀ i, i ≤ l.length → text.getD (b + i) 0 = (l ++ [t]).getD i 0) → b + l.length + 1 ≤ lim → hasAt text lim b w = isPre w l
  | [], l, b, _, _, _ => by unfold hasAt isPre; rfl
  | d :: r, [], b, hw, h, hl => by
    have h0 := h 0 (Nat.le_refl _)
    simp only [Nat.add_zero, List.nil_append] at h0
    have h0' : text.getD b 0 = t := h0
    unfold hasAt isPre
    rw [h0']
    have : t ≠ d := fun q => hw (q ▸ .head _)
    simp [this]
  | d :: r, c :: l, b, hw, h, hl => by
    have h0 := h 0 (Nat.zero_le _)
    simp only [Nat.add_zero] at h0
    have h0' : text.getD b 0 = c := by rw [h0]; simp [List.getD_eq_getElem?_getD]
    have ih := has_win r l (b + 1) (fun q => hw (.tail _ q)) (fun i hi => by
      have := h (i + 1) (by simpa using hi)
      rw [show b + 1 + i = b + (i + 1) by omega, this]
      simp [List.getD_eq_getElem?_getD]) (by simp at hl; omega)
    unfold hasAt isPre
    rw [h0', ih]
    have : decide (b < lim) = true := by simp at hl ⊢; omega
    rw [this]; simp

/-- where the first word of the list ends that heads l -/
noncomputable def wordE (l : List Nat) (t i : Nat) : List (List Nat) → Option Nat
  | [] => none
  | w :: r => if isPre w (l.drop i) && (isWordUni ((l ++ [t]).getD (i + w.length - 1) 0) != isWordUni ((l ++ [t]).getD (i + w.length) 0)) then some (i + w.length) else wordE l t i r

theorem word_win (W : Win text lim b l t) {i : Nat} (hi : i ≤ l.length) : ∀ (ws : List (List Nat)), (∀ w ∈ ws, t ∉ w ∧ w ≠ []) → wordEnd text lim (b + i) ws = (wordE l t i ws).map (b + ·)
  | [], _ => rfl
  | w :: r, h => by
    obtain ⟨h1, h2⟩ := h w (.head _)
    have hh := has_win (text := text) (lim := lim) (t := t) w (l.drop i) (b + i) h1 (fun j hj => by
      have hj' : i + j ≤ l.length := by simp at hj; omega
      rw [show b + i + j = b + (i + j) by omega, W.at' _ hj']
      have e : l.drop i ++ [t] = (l ++ [t]).drop i := by rw [List.drop_append_of_le_length hi]
      rw [e]
      simp [List.getD_eq_getElem?_getD, List.getElem?_drop]) (by have := W.le; simp; omega)
    unfold wordEnd wordE
    rw [hh, word_win W hi r fun w hw => h w (.tail _ hw)]
    cases hp : isPre w (l.drop i) with
    | false => simp
    | true =>
      have hle := isPre_le hp
      have hwl : 0 < w.length := List.length_pos_iff.mpr h2
      have hle' : i + w.length ≤ l.length := by simp at hle; omega
      have hlim := W.le
      have e1 : text.getD (b + i + w.length - 1) 0 = (l ++ [t]).getD (i + w.length - 1) 0 := by
        rw [show b + i + w.length - 1 = b + (i + w.length - 1) by omega]; exact W.at' _ (by omega)
      have e2 : text.getD (b + i + w.length) 0 = (l ++ [t]).getD (i + w.length) 0 := by
        rw [show b + i + w.length = b + (i + w.length) by omega]; exact W.at' _ hle'
      have hb : Re.bound text lim (b + i + w.length) = (isWordUni ((l ++ [t]).getD (i + w.length - 1) 0) != isWordUni ((l ++ [t]).getD (i + w.length) 0)) := by
        unfold Re.bound
        rw [e1, e2]
        have a1 : (lim != 0) = true := by simp; omega
        have a2 : decide (b + i + w.length > 0) = true := by simp; omega
        have a3 : decide (b + i + w.length < lim) = true := by simp; omega
        rw [a1, a2, a3]; simp
      rw [hb]
      simp only [Bool.true_and]
      split
      · rw [show b + i + w.length = b + (i + w.length) by omega]; rfl
      · rfl

/-- the end of the word at a line's head, counted from the line's start -/
noncomputable def lineW (ws : List (List Nat)) (l : List Nat) (t : Nat) : Option Nat := wordE l t (leadB l) ws

theorem head_win (W : Win text lim b l t) (ht : isBlank t = false) (hw : ∀ w ∈ ws, t ∉ w ∧ w ≠ []) : headAt text lim ws b = (lineW ws l t).map (b + ·) := by
  unfold headAt lineW
  rw [blk_win ht l b (lim - b) W.at' (by have := W.le; omega)]
  exact word_win W (leadB_le l) ws hw

theorem wordE_ge {i e : Nat} : ∀ {ws : List (List Nat)}, wordE l t i ws = some e → ∃ w ∈ ws, e = i + w.length ∧ i + w.length ≤ max i l.length
  | [], h => by cases h
  | w :: r, h => by
    unfold wordE at h
    split at h
    · rename_i hc
      cases h
      simp only [Bool.and_eq_true] at hc
      have := isPre_le hc.1
      exact ⟨w, .head _, rfl, by simp at this; omega⟩
    · obtain ⟨w', h1, h2⟩ := wordE_ge h
      exact ⟨w', .tail _ h1, h2⟩
theorem lineW_ge {e : Nat} (h : lineW ws l t = some e) : ∃ w ∈ ws, w.length ≤ e ∧ e ≤ l.length := by
  obtain ⟨w, h1, h2, h3⟩ := wordE_ge h
  exact ⟨w, h1, by omega, by have := leadB_le l; omega⟩
end
end Mine.Tx
end
noncomputable section
set_option Elab.async false
set_option linter.all false
set_option maxRecDepth 100000
namespace Mine.Tx
open PySem PySem.Sre Mine.Re

/-! ## a text of lines -/
noncomputable def flat (ls : List (List Nat)) : List Nat := (ls.map (· ++ [10])).flatten
noncomputable def stA (ls : List (List Nat)) (k : Nat) : Nat := (flat (ls.take k)).length
noncomputable def Lines (ls : List (List Nat)) : Prop := ∀ l ∈ ls, 10 ∉ l

section
variable {ls : List (List Nat)} {k j : Nat}

theorem flat_append (a b : List (List Nat)) : flat (a ++ b) = flat a ++ flat b := by simp [flat]
theorem flat_cons (l : List Nat) (r : List (List Nat)) : flat (l :: r) = l ++ 10 :: flat r := by simp [flat]
theorem flat_nil : flat [] = [] := rfl
theorem stA_zero : stA ls 0 = 0 := by simp [stA, flat]
theorem stA_succ (h : k < ls.length) : stA ls (k + 1) = stA ls k + ls[k].length + 1 := by
  unfold stA
  rw [List.take_succ_eq_append_getElem h, flat_append]
  simp [flat]; omega
theorem stA_all : stA ls ls.length = (flat ls).length := by simp [stA]
theorem stA_ge (h : ls.length ≤ k) : stA ls k = (flat ls).length := by unfold stA; rw [List.take_of_length_le h]
theorem stA_mono : ∀ {a b : Nat}, a ≤ b → stA ls a ≤ stA ls b := by
  intro a b h
  induction b with
  | zero => have : a = 0 := by omega
            subst this; exact Nat.le_refl _
  | succ b ih =>
    by_cases hb : a = b + 1
    · subst hb; exact Nat.le_refl _
    · refine Nat.le_trans (ih (by omega)) ?_
      by_cases hl : b < ls.length
      · rw [stA_succ hl]; omega
      · rw [stA_ge (by omega), stA_ge (by omega)]; exact Nat.le_refl _
theorem stA_lt {a b : Nat} (h : a < b) (hb : b ≤ ls.length) : stA ls a < stA ls b := by
  refine Nat.lt_of_lt_of_le ?_ (stA_mono (a := a + 1) h)
  rw [stA_succ (by omega)]; omega
theorem stA_le : stA ls k ≤ (flat ls).length := by
  by_cases h : k ≤ ls.length
  · rw [← stA_all]; exact stA_mono h
  · rw [stA_ge (by omega)]; exact Nat.le_refl _
theorem stA_inj {a b : Nat} (ha : a ≤ ls.length) (hb : b ≤ ls.length) (h : stA ls a = stA ls b) : a = b := by
  rcases Nat.lt_trichotomy a b with q | q | q
  · have := stA_lt q hb; omega
  · exact q
  · have := stA_lt q ha; omega
theorem flat_split (h : k < ls.length) : flat ls = flat (ls.take k) ++ (ls[k] ++ 10 :: flat (ls.drop (k + 1))) := by
  have e : ls = ls.take k ++ ls[k] :: ls.drop (k + 1) := by rw [List.getElem_cons_drop_succ_eq_drop h, List.take_append_drop]
  rw [← flat_cons, ← flat_append, ← e]
theorem flat_in (h : k < ls.length) {i : Nat} (hi : i ≤ ls[k].length) : (flat ls)[stA ls k + i]? = (ls[k] ++ [10])[i]? := by
  rw [flat_split h]
  have e : stA ls k = (flat (ls.take k)).length := rfl
  rw [e, List.getElem?_append_right (by omega)]
  rw [show (flat (ls.take k)).length + i - (flat (ls.take k)).length = i by omega]
  rw [show ls[k] ++ 10 :: flat (ls.drop (k + 1)) = (ls[k] ++ [10]) ++ flat (ls.drop (k + 1)) by simp]
  rw [List.getElem?_append_left (by simp; omega)]

theorem win_at (h : k < ls.length) {lim : Nat} (hl : stA ls (k + 1) ≤ lim) : Win (flat ls).toArray lim (stA ls k) ls[k] 10 :=
  ⟨fun i hi => by
    have := flat_in h hi
    simp only [Array.getD_eq_getD_getElem?, List.getElem?_toArray, List.getD_eq_getElem?_getD, this], by rw [stA_succ h] at hl; omega⟩

/-- every place lies in a line -/
theorem place_in : ∀ {j : Nat}, j < (flat ls).length → ∃ k, ∃ h : k < ls.length, ∃ i, i ≤ ls[k].length ∧ j = stA ls k + i := by
  intro j hj
  have : ∀ n, n ≤ ls.length → j < stA ls n → ∃ k, ∃ h : k < ls.length, ∃ i, i ≤ ls[k].length ∧ j = stA ls k + i := by
    intro n
    induction n with
    | zero => intro _ h; rw [stA_zero] at h; omega
    | succ n ih =>
      intro hn h
      by_cases hq : j < stA ls n
      · exact ih (by omega) hq
      · rw [stA_succ (by omega)] at h
        exact ⟨n, by omega, j - stA ls n, by omega, by omega⟩
  exact this ls.length (Nat.le_refl _) (by rw [stA_all]; exact hj)

theorem nl_iff (hL : Lines ls) : (flat ls)[j]? = some 10 ↔ ∃ r, r < ls.length ∧ j + 1 = stA ls (r + 1) := by
  constructor
  · intro h
    obtain ⟨k, hk, i, hi, rfl⟩ := place_in (ls := ls) (j := j) (by
      rcases Nat.lt_or_ge j (flat ls).length with q | q
      · exact q
      · rw [List.getElem?_eq_none q] at h; cases h)
    rw [flat_in hk hi] at h
    refine ⟨k, hk, ?_⟩
    rw [stA_succ hk]
    by_cases hq : i < ls[k].length
    · rw [List.getElem?_append_left hq] at h
      exact absurd (List.mem_of_getElem? h) (hL _ (List.getElem_mem hk))
    · omega
  · rintro ⟨r, hr, e⟩
    rw [stA_succ hr] at e
    have : j = stA ls r + ls[r].length := by omega
    rw [this, flat_in hr (Nat.le_refl _)]
    simp

theorem start_iff (hL : Lines ls) {q : Nat} : lineStart (flat ls).toArray q = true ↔ ∃ r, r ≤ ls.length ∧ q = stA ls r := by
  unfold lineStart
  simp only [Bool.or_eq_true, beq_iff_eq, Array.getD_eq_getD_getElem?, List.getElem?_toArray]
  constructor
  · rintro (h | h)
    · subst h; exact ⟨0, Nat.zero_le _, stA_zero.symm⟩
    · cases hq : (flat ls)[q - 1]? with
      | none => rw [hq] at h; cases h
      | some v =>
        rw [hq] at h
        have hv : v = 10 := h
        subst hv
        obtain ⟨r, hr, e⟩ := (nl_iff hL).mp hq
        by_cases h0 : q = 0
        · subst h0; exact ⟨0, Nat.zero_le _, stA_zero.symm⟩
        · exact ⟨r + 1, hr, by omega⟩
  · rintro ⟨r, hr, rfl⟩
    cases r with
    | zero => left; exact stA_zero
    | succ r =>
      right
      have h1 : stA ls (r + 1) = stA ls r + ls[r].length + 1 := stA_succ hr
      rw [(nl_iff hL).mpr ⟨r, hr, by omega⟩]
      rfl
end

/-! ## the search -/
/-- the words heading line k -/
noncomputable def wordAt (ls : List (List Nat)) (k : Nat) : Option Nat := (ls[k]?).bind fun l => lineW words1 l 10
/-- the first line with a word among n lines from a on -/
noncomputable def wordF (ls : List (List Nat)) : Nat → Nat → Option (Nat × Nat)
  | 0, _ => none
  | n + 1, a => match wordAt ls a with
    | some e => some (a, e)
    | none => wordF ls n (a + 1)

theorem words1_ok : ∀ w ∈ words1, (10 ∉ w ∧ w ≠ []) ∧ 3 ≤ w.length ∧ 40 ∉ w ∧ 35 ∉ w := by
  have : words1.all (fun w => !w.contains 10 && !w.isEmpty && decide (3 ≤ w.length) && !w.contains 40 && !w.contains 35) = true := by decide +kernel
  intro w hw
  have := List.all_eq_true.mp this w hw
  simp only [Bool.and_eq_true, Bool.not_eq_true', decide_eq_true_eq, List.contains_eq_mem, decide_eq_false_iff_not, List.isEmpty_eq_false_iff] at this
  obtain ⟨⟨⟨⟨h1, h2⟩, h3⟩, h4⟩, h5⟩ := this
  exact ⟨⟨h1, h2⟩, h3, h4, h5⟩

section
variable {ls : List (List Nat)} {k a : Nat}

theorem match_start (hL : Lines ls) (h : k < ls.length) {lim : Nat} (hl : stA ls (k + 1) ≤ lim) : matchAt (flat ls).toArray lim words1 (stA ls k) = (wordAt ls k).map (stA ls k + ·) := by
  unfold matchAt
  rw [if_pos ((start_iff hL).mpr ⟨k, by omega, rfl⟩)]
  have := head_win (win_at h hl) (by decide) (fun w hw => (words1_ok w hw).1)
  unfold wordAt
  rw [List.getElem?_eq_getElem h]
  exact this
theorem match_else (hL : Lines ls) {q lim : Nat} (hq : ∀ r, r ≤ ls.length → q ≠ stA ls r) : matchAt (flat ls).toArray lim words1 q = none := by
  unfold matchAt
  rw [if_neg]
  intro h
  obtain ⟨r, hr, e⟩ := (start_iff hL).mp h
  exact hq r hr e

theorem first_some {text : Array Nat} {lim : Nat} {ws : List (List Nat)} {q e : Nat} (hm : matchAt text lim ws q = some e) : ∀ {n s : Nat}, s ≤ q → q ≤ s + n → (∀ q', s ≤ q' → q' < q → matchAt text lim ws q' = none) → firstM text lim ws n s = some (q, e)
  | 0, s, h1, h2, _ => by
    have : s = q := by omega
    subst this
    unfold firstM; rw [hm]; rfl
  | n + 1, s, h1, h2, h3 => by
    unfold firstM
    by_cases hs : s = q
    · subst hs; rw [hm]
    · rw [h3 s (Nat.le_refl _) (by omega)]
      exact first_some hm (by omega) (by omega) fun q' a b => h3 q' (by omega) b
theorem first_none {text : Array Nat} {lim : Nat} {ws : List (List Nat)} : ∀ {n s : Nat}, (∀ q', s ≤ q' → q' ≤ s + n → matchAt text lim ws q' = none) → firstM text lim ws n s = none
  | 0, s, h => by unfold firstM; rw [h s (Nat.le_refl _) (by omega)]; rfl
  | n + 1, s, h => by
    unfold firstM
    rw [h s (Nat.le_refl _) (by omega)]
    exact first_none fun q' a b => h q' (by omega) (by omega)

theorem wordF_some : ∀ {n a r e : Nat}, wordF ls n a = some (r, e) → a ≤ r ∧ r < a + n ∧ wordAt ls r = some e ∧ ∀ i, a ≤ i → i < r → wordAt ls i = none
  | 0, a, r, e, h => by cases h
  | n + 1, a, r, e, h => by
    unfold wordF at h
    split at h
    · rename_i e' he
      cases h
      exact ⟨Nat.le_refl _, by omega, he, fun i a b => by omega⟩
    · rename_i he
      obtain ⟨h1, h2, h3, h4⟩ := wordF_some h
      exact ⟨by omega, by omega, h3, fun i a' b => by
        by_cases hi : i = a
        · subst hi; exact he
        · exact h4 i (by omega) b⟩
theorem wordF_none : ∀ {n a : Nat}, wordF ls n a = none → ∀ i, a ≤ i → i < a + n → wordAt ls i = none
  | 0, a, _, i, h1, h2 => by omega
  | n + 1, a, h, i, h1, h2 => by
    unfold wordF at h
    split at h
    · cases h
    · rename_i he
      by_cases hi : i = a
      · subst hi; exact he
      · exact wordF_none h i (by omega) (by omega)
theorem wordAt_lt {r e : Nat} (h : wordAt ls r = some e) : ∃ hr : r < ls.length, 3 ≤ e ∧ e ≤ ls[r].length := by
  unfold wordAt at h
  by_cases hr : r < ls.length
  · rw [List.getElem?_eq_getElem hr] at h
    obtain ⟨w, h1, h2, h3⟩ := lineW_ge (show lineW words1 ls[r] 10 = some e from h)
    exact ⟨hr, by have := (words1_ok w h1).2.1; omega, h3⟩
  · rw [List.getElem?_eq_none (by omega)] at h; cases h

/-- a search from a place between two lines up to a line's start -/
theorem search_lines (hL : Lines ls) {p : Nat} (hk : k ≤ ls.length) (hak : a ≤ k) (hp : p ≤ stA ls a) (hn : ∀ r, r < a → stA ls r < p) :
    searchR (flat ls).toArray words1 p (stA ls k) = (wordF ls (k - a) a).map fun x => (stA ls x.1, stA ls x.1 + x.2) := by
  have nomatch' : ∀ q, p ≤ q → (∀ r, a ≤ r → r < k → q = stA ls r → wordAt ls r = none) → q < stA ls k → matchAt (flat ls).toArray (stA ls k) words1 q = none := by
    intro q h1 h2 h3
    by_cases hq : ∃ r, r ≤ ls.length ∧ q = stA ls r
    · obtain ⟨r, hr, rfl⟩ := hq
      have har : a ≤ r := by
        refine Nat.not_lt.mp fun h => ?_
        have := hn r h; omega
      have hrk : r < k := by
        refine Nat.not_le.mp fun h => ?_
        have := stA_mono (ls := ls) h; omega
      rw [match_start hL (by omega) (stA_mono (by omega)), h2 r har hrk rfl]; rfl
    · exact match_else hL fun r hr e => hq ⟨r, hr, e⟩
  cases hw : wordF ls (k - a) a with
  | none =>
    have hnone := wordF_none hw
    unfold searchR
    split
    · rfl
    · rename_i hs
      refine first_none fun q h1 h2 => nomatch' q h1 (fun r ha hr _ => hnone r ha (by omega)) (by omega)
  | some x =>
    obtain ⟨r, e⟩ := x
    obtain ⟨h1, h2, h3, h4⟩ := wordF_some hw
    obtain ⟨hr, h5, h6⟩ := wordAt_lt h3
    have hst : stA ls (r + 1) ≤ stA ls k := stA_mono (by omega)
    rw [stA_succ hr] at hst
    have hpr : p ≤ stA ls r := Nat.le_trans hp (stA_mono h1)
    unfold searchR
    rw [if_neg (by omega)]
    refine first_some (q := stA ls r) (by rw [match_start hL hr (stA_mono (by omega)), h3]; rfl) hpr (by omega) fun q' a1 a2 => nomatch' q' a1 (fun i ha hi e => ?_) (by omega)
    subst e
    refine h4 i ha (Nat.not_le.mp fun h => ?_)
    have := stA_mono (ls := ls) h; omega
end
end Mine.Tx
end
noncomputable section
set_option Elab.async false
set_option linter.all false
set_option maxRecDepth 100000
namespace Mine.Tx
open PySem PySem.Sre Mine.Re PySem.StrLaws PySem.Builtin PySem.Builtin.Str

/-! ## rfind over lines -/
theorem last_upto (x y : PySem.Str) (hi : Nat) : (lastOccurrence x y 0 hi = none ∧ ∀ i, ¬ At x y hi i) ∨ ∃ i, lastOccurrence x y 0 hi = some i ∧ At x y hi i ∧ ∀ k, i < k → ¬ At x y hi k := by
  rw [last_eq]
  have key := last_run x y hi (List.range' 0 (hi + 1 - 0)) [] none (fun _ h => nomatch h) (fun _ h => nomatch h) (by simpa using List.pairwise_lt_range' (s := 0) (n := hi + 1 - 0))
  have mem : ∀ i, At x y hi i → i ∈ [] ++ List.range' 0 (hi + 1 - 0) := fun i hA => by have := hA.1; simp [List.mem_range'] <;> omega
  cases hr : (forIn (List.range' 0 (hi + 1 - 0)) none (lastBody x y hi)).run with
  | none => rw [hr] at key; exact .inl ⟨rfl, fun i hA => key i (mem i hA) hA⟩
  | some a => rw [hr] at key; exact .inr ⟨a, rfl, key.1, fun k hk hA => key.2 k (mem k hA) hk hA⟩
theorem last_is {x y : PySem.Str} {hi i : Nat} (h : At x y hi i) (hm : ∀ k, i < k → ¬ At x y hi k) : lastOccurrence x y 0 hi = some i := by
  rcases last_upto x y hi with ⟨_, q⟩ | ⟨j, e, q, r⟩
  · exact absurd h (q i)
  · rw [e]
    rcases Nat.lt_trichotomy i j with a | a | a
    · exact absurd q (hm j a)
    · rw [a]
    · exact absurd h (r i a)
theorem last_isnt {x y : PySem.Str} {hi : Nat} (h : ∀ i, ¬ At x y hi i) : lastOccurrence x y 0 hi = none := by
  rcases last_upto x y hi with ⟨e, _⟩ | ⟨j, _, q, _⟩
  · exact e
  · exact absurd q (h j)

theorem nl_str : ("\n" : PySem.Str) = ⟨#[10]⟩ := by decide
theorem col_str : (":\n" : PySem.Str) = ⟨#[58, 10]⟩ := by decide

theorem at_nl {x : PySem.Str} {hi i : Nat} (hh : hi ≤ x.cps.size) : At x "\n" hi i ↔ i + 1 ≤ hi ∧ x.cps[i]? = some 10 := by
  unfold At subAt
  rw [nl_str]
  show (i + 1 ≤ hi ∧ (x.cps.extract i (i + 1) == #[10]) = true) ↔ _
  refine and_congr_right fun h => ?_
  rw [beq_iff_eq]
  have hi : i < x.cps.size := Nat.lt_of_lt_of_le h hh
  have e : x.cps.extract i (i + 1) = #[x.cps[i]'hi] := by
    apply Array.ext
    · rw [Array.size_extract, Nat.min_eq_left hi]; exact Nat.add_sub_cancel_left i 1
    · intro j h1 h2
      have hj : j = 0 := Nat.lt_one_iff.mp h2
      subst hj
      rw [Array.getElem_extract]; rfl
  rw [e, Array.getElem?_eq_getElem hi]
  simp
theorem at_col {x : PySem.Str} {hi i : Nat} (hh : hi ≤ x.cps.size) : At x ":\n" hi i ↔ i + 2 ≤ hi ∧ x.cps[i]? = some 58 ∧ x.cps[i + 1]? = some 10 := by
  unfold At subAt
  rw [col_str]
  show (i + 2 ≤ hi ∧ (x.cps.extract i (i + 2) == #[58, 10]) = true) ↔ _
  refine and_congr_right fun h => ?_
  rw [beq_iff_eq]
  have hi1 : i + 1 < x.cps.size := Nat.lt_of_lt_of_le h hh
  have hi : i < x.cps.size := Nat.lt_of_succ_lt hi1
  have e : x.cps.extract i (i + 2) = #[x.cps[i]'hi, x.cps[i + 1]'hi1] := by
    apply Array.ext
    · rw [Array.size_extract, Nat.min_eq_left hi1]; exact Nat.add_sub_cancel_left i 2
    · intro j h1 h2
      rw [Array.getElem_extract]
      match j, h2 with
      | 0, _ => rfl
      | 1, _ => rfl
  rw [e, Array.getElem?_eq_getElem hi, Array.getElem?_eq_getElem hi1]
  simp

noncomputable def colonAt (ls : List (List Nat)) (k : Nat) : Bool := (ls[k]?).bind (·.getLast?) == some 58
noncomputable def colB (ls : List (List Nat)) : Nat → Option Nat
  | 0 => none
  | k + 1 => if colonAt ls k = true then some k else colB ls k

theorem colB_some {ls : List (List Nat)} : ∀ {k j : Nat}, colB ls k = some j → j < k ∧ colonAt ls j = true ∧ ∀ r, j < r → r < k → colonAt ls r = false
  | 0, j, h => by cases h
  | k + 1, j, h => by
    unfold colB at h
    split at h
    · rename_i hc
      cases h
      exact ⟨by omega, hc, fun r a b => by omega⟩
    · rename_i hc
      obtain ⟨h1, h2, h3⟩ := colB_some h
      exact ⟨by omega, h2, fun r a b => by
        by_cases hr : r = k
        · subst hr; simpa using hc
        · exact h3 r a (by omega)⟩
theorem colB_none {ls : List (List Nat)} : ∀ {k : Nat}, colB ls k = none → ∀ r, r < k → colonAt ls r = false
  | 0, _, r, a => by omega
  | k + 1, h, r, a => by
    unfold colB at h
    split at h
    · cases h
    · rename_i hc
      by_cases hr : r = k
      · subst hr; simpa using hc
      · exact colB_none h r (by omega)
theorem colonAt_lt {ls : List (List Nat)} {r : Nat} (h : colonAt ls r = true) : ∃ hr : r < ls.length, 0 < ls[r].length ∧ ls[r][ls[r].length - 1]? = some 58 := by
  unfold colonAt at h
  simp only [beq_iff_eq] at h
  by_cases hr : r < ls.length
  · rw [List.getElem?_eq_getElem hr] at h
    have h' : ls[r].getLast? = some 58 := h
    rw [List.getLast?_eq_getElem?] at h'
    refine ⟨hr, ?_, h'⟩
    refine Nat.pos_of_ne_zero fun q => ?_
    rw [q] at h'
    rw [List.getElem?_eq_none (by omega)] at h'; cases h'
  · rw [List.getElem?_eq_none (by omega)] at h; cases h
theorem colonAt_of {ls : List (List Nat)} {r : Nat} (hr : r < ls.length) (h : ls[r][ls[r].length - 1]? = some 58) : colonAt ls r = true := by
  unfold colonAt
  simp only [beq_iff_eq]
  rw [List.getElem?_eq_getElem hr]
  show ls[r].getLast? = some 58
  rw [List.getLast?_eq_getElem?]; exact h

section
variable {ls : List (List Nat)} {k j : Nat}
noncomputable def txt (ls : List (List Nat)) : PySem.Str := ⟨(flat ls).toArray⟩
theorem txt_size : (txt ls).cps.size = (flat ls).length := by simp [txt]
theorem txt_len : (txt ls).length = (flat ls).length := by simp [txt, Str.length]
theorem txt_get (i : Nat) : (txt ls).cps[i]? = (flat ls)[i]? := by simp [txt]

theorem col_iff (hL : Lines ls) (hk : k ≤ ls.length) {i : Nat} : At (txt ls) ":\n" (stA ls k) i ↔ ∃ r, r < k ∧ colonAt ls r = true ∧ i + 2 = stA ls (r + 1) := by
  rw [at_col (by rw [txt_size]; exact stA_le), txt_get, txt_get, nl_iff hL]
  constructor
  · rintro ⟨h1, h2, r, hr, h3⟩
    have hrk : r < k := by
      refine Nat.not_le.mp fun h => ?_
      have := stA_mono (ls := ls) (show k ≤ r from h)
      rw [stA_succ hr] at h3; omega
    refine ⟨r, hrk, ?_, by omega⟩
    rw [stA_succ hr] at h3
    by_cases h0 : 0 < ls[r].length
    · refine colonAt_of hr ?_
      have e : i = stA ls r + (ls[r].length - 1) := by omega
      rw [e, flat_in hr (by omega), List.getElem?_append_left (by omega)] at h2
      exact h2
    · have e : i + 1 = stA ls r := by omega
      cases r with
      | zero => rw [stA_zero] at e; omega
      | succ r =>
        have := (nl_iff (j := i) hL).mpr ⟨r, by omega, e⟩
        rw [this] at h2; cases h2
  · rintro ⟨r, hr, hc, e⟩
    obtain ⟨hl, h0, hv⟩ := colonAt_lt hc
    have hm := stA_mono (ls := ls) (show r + 1 ≤ k from hr)
    refine ⟨by omega, ?_, r, hl, by omega⟩
    rw [stA_succ hl] at e
    have e' : i = stA ls r + (ls[r].length - 1) := by omega
    rw [e', flat_in hl (by omega), List.getElem?_append_left (by omega)]
    exact hv

theorem rf_colon (hL : Lines ls) (hk : k ≤ ls.length) : lastOccurrence (txt ls) ":\n" 0 (stA ls k) = (colB ls k).map fun j => stA ls (j + 1) - 2 := by
  cases hc : colB ls k with
  | none =>
    refine last_isnt fun i h => ?_
    obtain ⟨r, h1, h2, _⟩ := (col_iff hL hk).mp h
    rw [colB_none hc r h1] at h2; cases h2
  | some j =>
    obtain ⟨h1, h2, h3⟩ := colB_some hc
    obtain ⟨hl, h0, _⟩ := colonAt_lt h2
    have e := stA_succ hl
    show _ = some (stA ls (j + 1) - 2)
    refine last_is ((col_iff hL hk).mpr ⟨j, h1, h2, ?_⟩) fun i hi h => ?_
    · omega
    · obtain ⟨r, r1, r2, r3⟩ := (col_iff hL hk).mp h
      rcases Nat.lt_or_ge j r with q | q
      · rw [h3 r q r1] at r2; cases r2
      · have := stA_mono (ls := ls) (show r + 1 ≤ j + 1 by omega); omega

theorem rf_nl (hL : Lines ls) (hj : j < ls.length) {i : Nat} (h1 : stA ls j ≤ i) (h2 : i < stA ls (j + 1)) : rfindI (txt ls) "\n" 0 i + 1 = (stA ls j : Int) := by
  have hi : i ≤ (txt ls).cps.size := by rw [txt_size]; have := stA_le (ls := ls) (k := j + 1); omega
  have key : ∀ q, At (txt ls) "\n" i q → ∃ r, r < j ∧ q + 1 = stA ls (r + 1) := by
    intro q h
    rw [at_nl hi, txt_get, nl_iff hL] at h
    obtain ⟨a, r, hr, e⟩ := h
    refine ⟨r, Nat.not_le.mp fun hq => ?_, e⟩
    have := stA_mono (ls := ls) (show j + 1 ≤ r + 1 by omega); omega
  unfold rfindI
  cases j with
  | zero =>
    rw [last_isnt fun q h => by obtain ⟨r, hr, _⟩ := key q h; omega, stA_zero]; rfl
  | succ j =>
    have hp : 0 < stA ls (j + 1) := by rw [stA_succ (by omega)]; omega
    rw [last_is (i := stA ls (j + 1) - 1)]
    · show ((stA ls (j + 1) - 1 : Nat) : Int) + 1 = _
      omega
    · rw [at_nl hi, txt_get, nl_iff hL]
      exact ⟨by omega, j, by omega, by omega⟩
    · intro q hq h
      obtain ⟨r, hr, e⟩ := key q h
      have := stA_mono (ls := ls) (show r + 1 ≤ j + 1 by omega); omega
theorem rf_colI (hL : Lines ls) (hk : k ≤ ls.length) : rfindI (txt ls) ":\n" 0 (stA ls k) = match colB ls k with | some j => ((stA ls (j + 1) - 2 : Nat) : Int) | none => -1 := by
  unfold rfindI
  rw [rf_colon hL hk]
  cases colB ls k <;> rfl
end
end Mine.Tx
end
noncomputable section
set_option Elab.async false
set_option linter.all false
set_option maxRecDepth 100000
set_option maxHeartbeats 1000000
namespace Mine.Tx
open PySem PySem.W PyProof.Rows Mine Mine.Re

noncomputable def find_S : S := (.seq (.asg2 "code" "pos" (.tup (.cons (.attr (.var "self") "code") (.cons .none .nil)))) (.seq (.asg "limit" (.call (.glob "len") (.cons (.var "code") .nil))) (.seq (.each "tries" (.call (.glob "range") (.cons (.int 5) .nil)) (.seq (.asg "i" (.meth (.var "code") "rfind" (.cons (.str ":\n") (.cons (.int 0) (.cons (.var "limit") .nil))))) (.seq (.ite (.cmp .Lt (.var "i") (.int 0)) (.seq .brk .nil) .nil) (.seq (.asg "i" (.bin .Add (.meth (.var "code") "rfind" (.cons (.str "\n") (.cons (.int 0) (.cons (.var "i") .nil)))) (.int 1))) (.seq (.asg "m" (.call (.glob "_synchre") (.cons (.var "code") (.cons (.var "i") (.cons (.var "limit") .nil))))) (.seq (.ite (.and (.var "m") (.not (.call (.var "is_char_in_string") (.cons (.meth (.var "m") "start" .nil) .nil)))) (.seq (.asg "pos" (.meth (.var "m") "start" .nil)) (.seq .brk .nil)) .nil) (.seq (.asg "limit" (.var "i")) .nil))))))) (.seq (.ite (.cmp .Is (.var "pos") .none) (.seq (.asg "m" (.call (.glob "_synchre") (.cons (.var "code") .nil))) (.seq (.ite (.and (.var "m") (.not (.call (.var "is_char_in_string") (.cons (.meth (.var "m") "start" .nil) .nil)))) (.seq (.asg "pos" (.meth (.var "m") "start" .nil)) .nil) .nil) (.seq (.ret (.var "pos")) .nil))) .nil) (.seq (.asg "i" (.bin .Add (.var "pos") (.int 1))) (.seq (.loop 1000 (.named "m" (.call (.glob "_synchre") (.cons (.var "code") (.cons (.var "i") .nil)))) (.seq (.asg2 "s" "i" (.meth (.var "m") "span" .nil)) (.seq (.ite (.not (.call (.var "is_char_in_string") (.cons (.var "s") .nil))) (.seq (.asg "pos" (.var "s")) .nil) .nil) .nil)) .nil) (.seq (.ret (.var "pos")) .nil)))))))

/-! ## what find_good_parse_start tells -/
section
variable {M : Type}
noncomputable def tryG (ls : List (List Nat)) (test : Nat → M → Bool × M) : Nat → Nat → M → Option Nat × M
  | 0, _, m => (none, m)
  | n + 1, k, m => match colB ls k with
    | none => (none, m)
    | some j => match wordF ls (k - j) j with
      | none => tryG ls test n j m
      | some (r, _) => if (test (stA ls r) m).1 = true then tryG ls test n j (test (stA ls r) m).2 else (some r, (test (stA ls r) m).2)
noncomputable def lastG (ls : List (List Nat)) (test : Nat → M → Bool × M) : Nat → Nat → Nat → M → Nat × M
  | 0, _, pos, m => (pos, m)
  | n + 1, a, pos, m => match wordAt ls a with
    | none => lastG ls test n (a + 1) pos m
    | some _ => lastG ls test n (a + 1) (if (test (stA ls a) m).1 = true then pos else a) (test (stA ls a) m).2
noncomputable def firstG (ls : List (List Nat)) (test : Nat → M → Bool × M) (m : M) : Option Nat × M := match wordF ls ls.length 0 with
  | none => (none, m)
  | some (r, _) => (if (test (stA ls r) m).1 = true then none else some r, (test (stA ls r) m).2)
noncomputable def findG (ls : List (List Nat)) (test : Nat → M → Bool × M) (m : M) : Option Nat × M := match tryG ls test 5 ls.length m with
  | (none, m') => firstG ls test m'
  | (some r, m') => (some (lastG ls test (ls.length - (r + 1)) (r + 1) r m').1, (lastG ls test (ls.length - (r + 1)) (r + 1) r m').2)

theorem lastG_skip {ls : List (List Nat)} {test : Nat → M → Bool × M} : ∀ {n a pos : Nat} {m : M}, lastG ls test n a pos m = match wordF ls n a with
    | none => (pos, m)
    | some (r, _) => lastG ls test (a + n - (r + 1)) (r + 1) (if (test (stA ls r) m).1 = true then pos else r) (test (stA ls r) m).2
  | 0, a, pos, m => rfl
  | n + 1, a, pos, m => by
    have e1 : lastG ls test (n + 1) a pos m = match wordAt ls a with
      | none => lastG ls test n (a + 1) pos m
      | some _ => lastG ls test n (a + 1) (if (test (stA ls a) m).1 = true then pos else a) (test (stA ls a) m).2 := rfl
    have e2 : wordF ls (n + 1) a = match wordAt ls a with
      | some e => some (a, e)
      | none => wordF ls n (a + 1) := rfl
    rw [e1, e2]
    cases hw : wordAt ls a with
    | some e => dsimp only; rw [show a + (n + 1) - (a + 1) = n by omega]
    | none =>
      dsimp only
      rw [lastG_skip, show a + 1 + n = a + (n + 1) by omega]
end

noncomputable def rowV (ls : List (List Nat)) : Option Nat → V
  | none => .none
  | some r => .int (stA ls r)

/-- the names that the function asks for -/
structure Bs (cx : Sx) : Prop where
  len : cx.gl "len" = some (.top (.builtin "len"))
  rng : cx.gl "range" = some (.top (.type "range"))
  syn : ∃ a, cx.gl "_synchre" = some (.top (.ref a)) ∧ ∀ args H, cx.app (.top (.ref a)) args H = searchB args H
  b : ∀ i args H, cx.app (.top (.builtin i)) args H = bapp i args H
  t : ∀ i args H, cx.app (.top (.type i)) args H = tapp i args H
  gs : ∀ x H, cx.get (.str x) "rfind" H = some (.top (.builtin "str.rfind"), [.str x])
  g1 : ∀ p e H, cx.get (.mt p e) "start" H = some (.top (.builtin "re.Match.start"), [.mt p e])
  g2 : ∀ p e H, cx.get (.mt p e) "span" H = some (.top (.builtin "re.Match.span"), [.mt p e])

theorem look_set {σ : St} {x y : PySem.Str} {v : V} : (σ.set x v).loc.lookup y = if y = x then some v else σ.loc.lookup y := lookup_setL
theorem look_hp {σ : St} {H : Hp} : ({ σ with toHp := H } : St).loc = σ.loc := rfl

noncomputable def mtV : Option (Nat × Nat) → V
  | some (p, e) => .mt p e
  | none => .none
theorem found_eq {x : PySem.Str} {is : List Int} {H : Hp} (h : -(2 ^ 63) ≤ posOf is ∧ posOf is < 2 ^ 63 ∧ -(2 ^ 63) ≤ limOf is ∧ limOf is < 2 ^ 63) :
    foundV x is H = okH (mtV (searchR x.cps words1 (min (posOf is).toNat x.cps.size) (min (limOf is).toNat x.cps.size))) H := by
  unfold foundV
  rw [if_pos h]
  cases searchR x.cps words1 (min (posOf is).toNat x.cps.size) (min (limOf is).toNat x.cps.size) with
  | none => rfl
  | some q => rfl

section
variable {cx : Sx} {σ : St} {ls : List (List Nat)} {vt : V}

theorem ix_of {i : Int} {n k : Nat} (h : (if i < 0 then i + n else i) = (k : Int)) (hk : k < n) : seqIndex? i n = some k := by
  show (if (decide (0 ≤ (if i < 0 then i + n else i)) && decide ((if i < 0 then i + n else i) < (n : Int))) = true then some (if i < 0 then i + n else i).toNat else none) = _
  rw [h, decide_eq_true (Int.natCast_nonneg k), decide_eq_true (Int.ofNat_lt.mpr hk)]
  rfl
theorem ix_nat {i n : Nat} (h : i < n) : seqIndex? (i : Int) n = some i := ix_of (if_neg (Int.not_lt.mpr (Int.natCast_nonneg i))) h
theorem ix_last {n : Nat} (h : 0 < n) : seqIndex? (-1) n = some (n - 1) := ix_of ((if_pos (by decide)).trans (by omega)) (Nat.sub_lt h (by decide))
theorem fits_nat {i : Nat} (h : i ≤ sizeLine) : fitsIx (i : Int) = true := by
  have hz : sizeLine = 16777216 := by decide
  unfold fitsIx
  rw [decide_eq_true (by omega), decide_eq_true (by omega)]; rfl
theorem cut_take {α : Type} (xs : List α) (k : Nat) : cut xs none (some (k : Int)) = xs.take k := by
  have : clipAt xs.length (k : Int) = min k xs.length := clipAt_nat _ _
  show (xs.drop 0).take (clipAt xs.length (k : Int) - 0) = _
  rw [this, List.drop_zero, Nat.sub_zero, ← List.take_take, List.take_length]
theorem cut_drop {α : Type} (xs : List α) : cut xs (some (-5)) none = xs.drop (xs.length - 5) := by
  have : clipAt xs.length (-5) = xs.length - 5 := clipAt_neg _ 5 (by decide)
  show (xs.drop (clipAt xs.length (-5))).take (xs.length - clipAt xs.length (-5)) = _
  rw [this]
  exact List.take_of_length_le (by rw [List.length_drop]; exact Nat.le_refl _)
theorem at_63 {a : Nat} (h : a ≤ sizeLine) : -(2 ^ 63) ≤ (a : Int) ∧ (a : Int) < 2 ^ 63 := by
  have hz : sizeLine = 16777216 := by decide
  omega
theorem at_lim : -(2 ^ 63) ≤ (2 ^ 63 - 1 : Int) ∧ (2 ^ 63 - 1 : Int) < 2 ^ 63 := by decide
theorem min_at {a n : Nat} (h : a ≤ n) : min (a : Int).toNat n = a := by rw [Int.toNat_natCast]; exact Nat.min_eq_left h
theorem min_lim {n : Nat} (h : n ≤ sizeLine) : min (2 ^ 63 - 1 : Int).toNat n = n := Nat.min_eq_right (Nat.le_trans h (by decide))

/-- a search, called -/
theorem ev_srch (B : Bs cx) {as : X} {vs : List V} {is : List Int} {r : Option (Nat × Nat)} (ha : ev cx.toCx as σ = .ok (.list (.str (txt ls) :: vs)) σ) (hi : intsV vs = some is)
    (hp : -(2 ^ 63) ≤ posOf is ∧ posOf is < 2 ^ 63) (hl : -(2 ^ 63) ≤ limOf is ∧ limOf is < 2 ^ 63) {a l : Nat} (h1 : min (posOf is).toNat (flat ls).length = a) (h2 : min (limOf is).toNat (flat ls).length = l) (hs : searchR (flat ls).toArray words1 a l = r) :
    ev cx.toCx (.call (.glob "_synchre") as) σ = .ok (mtV r) σ := by
  obtain ⟨ad, g1, g2⟩ := B.syn
  have e : searchB (.str (txt ls) :: vs) σ.toHp = okH (mtV r) σ.toHp := by
    have e0 : searchB (.str (txt ls) :: vs) σ.toHp = foundV (txt ls) is σ.toHp := by
      show (intsV vs).elim Rs.bad _ = _
      rw [hi]; rfl
    rw [e0, found_eq ⟨hp.1, hp.2, hl⟩, txt_size, h1, h2]
    exact congrArg (fun q => okH (mtV q) σ.toHp) hs
  simp only [evq_none, evq_bool, evq_int, evq_str, evq_var, evq_cv, evq_glob, evq_bin, evq_neg, evq_not, evq_cmp, evq_and, evq_or, evq_ite, evq_idx, evq_slc, evq_attr, evq_list, evq_tup, evq_nil, evq_cons, evq_call, evq_meth, evq_comp, evq_lam, evq_named, g1, ha, Rs.bind, argR, g2, e, okH, Rs.lift]
theorem ev_search3 (B : Bs cx) (hL : Lines ls) (hsz : (flat ls).length ≤ sizeLine) {a k : Nat} (hk : k ≤ ls.length) (hak : a ≤ k) (h1 : σ.loc.lookup ("code" : PySem.Str) = some (.str (txt ls))) (h2 : σ.loc.lookup ("i" : PySem.Str) = some (.int (stA ls a))) (h3 : σ.loc.lookup ("limit" : PySem.Str) = some (.int (stA ls k))) :
    ev cx.toCx (.call (.glob "_synchre") (.cons (.var "code") (.cons (.var "i") (.cons (.var "limit") .nil)))) σ = .ok (mtV ((wordF ls (k - a) a).map fun x => (stA ls x.1, stA ls x.1 + x.2))) σ :=
  ev_srch B (vs := [.int (stA ls a), .int (stA ls k)]) (is := [(stA ls a : Int), (stA ls k : Int)]) (by simp only [evq_none, evq_bool, evq_int, evq_str, evq_var, evq_cv, evq_glob, evq_bin, evq_neg, evq_not, evq_cmp, evq_and, evq_or, evq_ite, evq_idx, evq_slc, evq_attr, evq_list, evq_tup, evq_nil, evq_cons, evq_call, evq_meth, evq_comp, evq_lam, evq_named, h1, h2, h3, Rs.bind, argR]) rfl (at_63 (Nat.le_trans stA_le hsz)) (at_63 (Nat.le_trans stA_le hsz)) (min_at stA_le) (min_at stA_le)
    (search_lines hL hk hak (Nat.le_refl _) fun r hr => stA_lt hr (Nat.le_trans hak hk))
theorem ev_search1 (B : Bs cx) (hL : Lines ls) (hsz : (flat ls).length ≤ sizeLine) (h1 : σ.loc.lookup ("code" : PySem.Str) = some (.str (txt ls))) :
    ev cx.toCx (.call (.glob "_synchre") (.cons (.var "code") .nil)) σ = .ok (mtV ((wordF ls ls.length 0).map fun x => (stA ls x.1, stA ls x.1 + x.2))) σ :=
  ev_srch B (vs := []) (is := []) (by simp only [evq_none, evq_bool, evq_int, evq_str, evq_var, evq_cv, evq_glob, evq_bin, evq_neg, evq_not, evq_cmp, evq_and, evq_or, evq_ite, evq_idx, evq_slc, evq_attr, evq_list, evq_tup, evq_nil, evq_cons, evq_call, evq_meth, evq_comp, evq_lam, evq_named, h1, Rs.bind, argR]) rfl (at_63 (a := 0) (Nat.zero_le _)) at_lim (Nat.zero_min _) (min_lim hsz)
    (by rw [← stA_all]; exact search_lines hL (Nat.le_refl _) (Nat.zero_le _) (Nat.zero_le _) fun r hr => absurd hr (Nat.not_lt_zero r))
theorem ev_search2 (B : Bs cx) (hL : Lines ls) (hsz : (flat ls).length ≤ sizeLine) {a p : Nat} (hak : a ≤ ls.length) (hp : p ≤ stA ls a) (hn : ∀ r, r < a → stA ls r < p) (h1 : σ.loc.lookup ("code" : PySem.Str) = some (.str (txt ls))) (h2 : σ.loc.lookup ("i" : PySem.Str) = some (.int (p : Nat))) :
    ev cx.toCx (.call (.glob "_synchre") (.cons (.var "code") (.cons (.var "i") .nil))) σ = .ok (mtV ((wordF ls (ls.length - a) a).map fun x => (stA ls x.1, stA ls x.1 + x.2))) σ :=
  ev_srch B (vs := [.int (p : Nat)]) (is := [(p : Int)]) (by simp only [evq_none, evq_bool, evq_int, evq_str, evq_var, evq_cv, evq_glob, evq_bin, evq_neg, evq_not, evq_cmp, evq_and, evq_or, evq_ite, evq_idx, evq_slc, evq_attr, evq_list, evq_tup, evq_nil, evq_cons, evq_call, evq_meth, evq_comp, evq_lam, evq_named, h1, h2, Rs.bind, argR]) rfl (at_63 (Nat.le_trans hp (Nat.le_trans stA_le hsz))) at_lim (min_at (Nat.le_trans hp stA_le)) (min_lim hsz)
    (by rw [← stA_all]; exact search_lines hL (Nat.le_refl _) hak hp hn)
theorem ev_rfind (B : Bs cx) {y : PySem.Str} {x : PySem.Str} {j : Nat} {nm : PySem.Str} (h1 : σ.loc.lookup ("code" : PySem.Str) = some (.str x)) (h2 : σ.loc.lookup nm = some (.int (j : Nat))) (hj : j ≤ x.length) :
    ev cx.toCx (.meth (.var "code") "rfind" (.cons (.str y) (.cons (.int 0) (.cons (.var nm) .nil)))) σ = .ok (.int (rfindI x y 0 j)) σ := by
  have e : bapp "str.rfind" [.str x, .str y, .int 0, .int (j : Nat)] σ.toHp = okH (.int (rfindI x y 0 j)) σ.toHp := by
    unfold bapp
    rw [if_neg (by decide), if_pos rfl]
    have e2 : min (Re.upTo x.length (j : Int)) x.length = j := by
      have : Re.upTo x.length (j : Int) = j := rfl
      rw [this]; exact Nat.min_eq_left hj
    show okH (.int (rfindI x y 0 (min (Re.upTo x.length (j : Int)) x.length))) σ.toHp = _
    rw [e2]
  simp only [evq_none, evq_bool, evq_int, evq_str, evq_var, evq_cv, evq_glob, evq_bin, evq_neg, evq_not, evq_cmp, evq_and, evq_or, evq_ite, evq_idx, evq_slc, evq_attr, evq_list, evq_tup, evq_nil, evq_cons, evq_call, evq_meth, evq_comp, evq_lam, evq_named, h1, h2, Rs.bind, argR, B.gs, B.b, List.cons_append, List.nil_append, e, okH, Rs.lift]
theorem ev_start (B : Bs cx) {p e : Nat} (h : σ.loc.lookup ("m" : PySem.Str) = some (.mt p e)) : ev cx.toCx (.meth (.var "m") "start" .nil) σ = .ok (.int (p : Nat)) σ := by
  have e1 : bapp "re.Match.start" [.mt p e] σ.toHp = okH (.int (p : Nat)) σ.toHp := by
    unfold bapp
    rw [if_neg (by decide), if_neg (by decide), if_neg (by decide), if_neg (by decide), if_neg (by decide), if_pos rfl]; rfl
  simp only [evq_none, evq_bool, evq_int, evq_str, evq_var, evq_cv, evq_glob, evq_bin, evq_neg, evq_not, evq_cmp, evq_and, evq_or, evq_ite, evq_idx, evq_slc, evq_attr, evq_list, evq_tup, evq_nil, evq_cons, evq_call, evq_meth, evq_comp, evq_lam, evq_named, h, Rs.bind, argR, B.g1, B.b, List.append_nil, e1, okH, Rs.lift]
theorem ev_span (B : Bs cx) {p e : Nat} (h : σ.loc.lookup ("m" : PySem.Str) = some (.mt p e)) : ev cx.toCx (.meth (.var "m") "span" .nil) σ = .ok (.tup [.int (p : Nat), .int (e : Nat)]) σ := by
  have e1 : bapp "re.Match.span" [.mt p e] σ.toHp = okH (.tup [.int (p : Nat), .int (e : Nat)]) σ.toHp := by
    unfold bapp
    rw [if_neg (by decide), if_neg (by decide), if_neg (by decide), if_neg (by decide), if_neg (by decide), if_neg (by decide), if_pos rfl]; rfl
  simp only [evq_none, evq_bool, evq_int, evq_str, evq_var, evq_cv, evq_glob, evq_bin, evq_neg, evq_not, evq_cmp, evq_and, evq_or, evq_ite, evq_idx, evq_slc, evq_attr, evq_list, evq_tup, evq_nil, evq_cons, evq_call, evq_meth, evq_comp, evq_lam, evq_named, h, Rs.bind, argR, B.g2, B.b, List.append_nil, e1, okH, Rs.lift]
end
end Mine.Tx
end
noncomputable section
set_option Elab.async false
set_option linter.all false
set_option maxRecDepth 100000
set_option maxHeartbeats 1000000
namespace Mine.Tx
open PySem PySem.W PyProof.Rows Mine Mine.Re

noncomputable def body_S : S := (.seq (.asg "i" (.meth (.var "code") "rfind" (.cons (.str ":\n") (.cons (.int 0) (.cons (.var "limit") .nil))))) (.seq (.ite (.cmp .Lt (.var "i") (.int 0)) (.seq .brk .nil) .nil) (.seq (.asg "i" (.bin .Add (.meth (.var "code") "rfind" (.cons (.str "\n") (.cons (.int 0) (.cons (.var "i") .nil)))) (.int 1))) (.seq (.asg "m" (.call (.glob "_synchre") (.cons (.var "code") (.cons (.var "i") (.cons (.var "limit") .nil))))) (.seq (.ite (.and (.var "m") (.not (.call (.var "is_char_in_string") (.cons (.meth (.var "m") "start" .nil) .nil)))) (.seq (.asg "pos" (.meth (.var "m") "start" .nil)) (.seq .brk .nil)) .nil) (.seq (.asg "limit" (.var "i")) .nil))))))
noncomputable def each_S : S := .each "tries" (.call (.glob "range") (.cons (.int 5) .nil)) body_S
noncomputable def none_S : S := (.seq (.asg "m" (.call (.glob "_synchre") (.cons (.var "code") .nil))) (.seq (.ite (.and (.var "m") (.not (.call (.var "is_char_in_string") (.cons (.meth (.var "m") "start" .nil) .nil)))) (.seq (.asg "pos" (.meth (.var "m") "start" .nil)) .nil) .nil) (.seq (.ret (.var "pos")) .nil)))
noncomputable def wbody_S : S := (.seq (.asg2 "s" "i" (.meth (.var "m") "span" .nil)) (.seq (.ite (.not (.call (.var "is_char_in_string") (.cons (.var "s") .nil))) (.seq (.asg "pos" (.var "s")) .nil) .nil) .nil))
noncomputable def while_S : S := .loop 1000 (.named "m" (.call (.glob "_synchre") (.cons (.var "code") (.cons (.var "i") .nil)))) wbody_S .nil
theorem find_eq : find_S = (.seq (.asg2 "code" "pos" (.tup (.cons (.attr (.var "self") "code") (.cons .none .nil)))) (.seq (.asg "limit" (.call (.glob "len") (.cons (.var "code") .nil))) (.seq each_S (.seq (.ite (.cmp .Is (.var "pos") .none) none_S .nil) (.seq (.asg "i" (.bin .Add (.var "pos") (.int 1))) (.seq while_S (.seq (.ret (.var "pos")) .nil))))))) := rfl

structure Fr (σ : St) (ls : List (List Nat)) (vt pos : V) : Prop where
  code : σ.loc.lookup ("code" : PySem.Str) = some (.str (txt ls))
  tst : σ.loc.lookup ("is_char_in_string" : PySem.Str) = some vt
  pos : σ.loc.lookup ("pos" : PySem.Str) = some pos

theorem look_ne {σ : St} {x y : PySem.Str} {v : V} {o : Option V} (hne : (y = x) = False) (h : σ.loc.lookup y = o) : (σ.set x v).loc.lookup y = o := by rw [look_set, if_neg (by rw [hne]; exact id), h]
theorem look_eq {σ : St} {x : PySem.Str} {v : V} : (σ.set x v).loc.lookup x = some v := by rw [look_set, if_pos rfl]
theorem Fr.set {σ : St} {ls : List (List Nat)} {vt pos : V} (h : Fr σ ls vt pos) {x : PySem.Str} {v : V} (h1 : ("code" : PySem.Str) ≠ x) (h2 : ("is_char_in_string" : PySem.Str) ≠ x) (h3 : ("pos" : PySem.Str) ≠ x) : Fr (σ.set x v) ls vt pos :=
  ⟨look_ne (eq_false h1) h.code, look_ne (eq_false h2) h.tst, look_ne (eq_false h3) h.pos⟩
theorem Fr.setP {σ : St} {ls : List (List Nat)} {vt pos : V} (h : Fr σ ls vt pos) {v : V} : Fr (σ.set "pos" v) ls vt v :=
  ⟨look_ne (by decide) h.code, look_ne (by decide) h.tst, look_eq⟩
theorem Fr.hp {σ : St} {ls : List (List Nat)} {vt pos : V} (h : Fr σ ls vt pos) {H : Hp} : Fr { σ with toHp := H } ls vt pos := ⟨h.code, h.tst, h.pos⟩

section
variable {M : Type} {cx : Sx} {σ : St} {ls : List (List Nat)} {vt : V} {I : Nat → M → Hp → Prop} {test : Nat → M → Bool × M} {m : M}

/-- the test may be asked so often -/
structure TestOk (cx : Sx) (vt : V) (I : Nat → M → Hp → Prop) (test : Nat → M → Bool × M) : Prop where
  less : ∀ c m H, I (c + 1) m H → I c m H
  ask : ∀ c p m H, I (c + 1) m H → ∃ H', I c (test p m).2 H' ∧ ∀ σ : St, (cx.app vt [.int (p : Nat)] H).lift σ = .ok (.bool (test p m).1) { σ with toHp := H' }
theorem TestOk.le (T : TestOk cx vt I test) {c : Nat} {H : Hp} : ∀ {d : Nat}, c ≤ d → I d m H → I c m H := fun {d} h hI => by
  induction h with
  | refl => exact hI
  | step _ ih => exact ih (T.less _ _ _ hI)

theorem ev_test {c : Nat} (T : TestOk cx vt I test) (hI : I (c + 1) m σ.toHp) (hv : σ.loc.lookup ("is_char_in_string" : PySem.Str) = some vt) {e : X} {p : Nat} (he : ev cx.toCx e σ = .ok (.int (p : Nat)) σ) :
    ∃ H', I c (test p m).2 H' ∧ ev cx.toCx (.not (.call (.var "is_char_in_string") (.cons e .nil))) σ = .ok (.bool !(test p m).1) { σ with toHp := H' } := by
  obtain ⟨H', h1, h2⟩ := T.ask c p m σ.toHp hI
  refine ⟨H', h1, ?_⟩
  simp only [evq_none, evq_bool, evq_int, evq_str, evq_var, evq_cv, evq_glob, evq_bin, evq_neg, evq_not, evq_cmp, evq_and, evq_or, evq_ite, evq_idx, evq_slc, evq_attr, evq_list, evq_tup, evq_nil, evq_cons, evq_call, evq_meth, evq_comp, evq_lam, evq_named, hv, he, Rs.bind, argR, h2 σ, truV]

/-- a match is asked of -/
theorem ev_and {c : Nat} (T : TestOk cx vt I test) (B : Bs cx) (hI : I (c + 1) m σ.toHp) (hv : σ.loc.lookup ("is_char_in_string" : PySem.Str) = some vt) {o : Option (Nat × Nat)} (hm : σ.loc.lookup ("m" : PySem.Str) = some (mtV (o.map fun x => (stA ls x.1, stA ls x.1 + x.2)))) :
    (o = none ∧ ev cx.toCx (.and (.var "m") (.not (.call (.var "is_char_in_string") (.cons (.meth (.var "m") "start" .nil) .nil)))) σ = .ok .none σ) ∨
    ∃ r e H', o = some (r, e) ∧ I c (test (stA ls r) m).2 H' ∧ ev cx.toCx (.and (.var "m") (.not (.call (.var "is_char_in_string") (.cons (.meth (.var "m") "start" .nil) .nil)))) σ = .ok (.bool !(test (stA ls r) m).1) { σ with toHp := H' } ∧
      σ.loc.lookup ("m" : PySem.Str) = some (.mt (stA ls r) (stA ls r + e)) := by
  cases o with
  | none =>
    left
    refine ⟨rfl, ?_⟩
    have hm' : σ.loc.lookup ("m" : PySem.Str) = some .none := hm
    have h0 : ev cx.toCx (.var "m") σ = .ok .none σ := by simp only [evq_none, evq_bool, evq_int, evq_str, evq_var, evq_cv, evq_glob, evq_bin, evq_neg, evq_not, evq_cmp, evq_and, evq_or, evq_ite, evq_idx, evq_slc, evq_attr, evq_list, evq_tup, evq_nil, evq_cons, evq_call, evq_meth, evq_comp, evq_lam, evq_named, hm']
    exact (Rs.bind_ok h0 : _)
  | some x =>
    obtain ⟨r, e⟩ := x
    right
    have hm' : σ.loc.lookup ("m" : PySem.Str) = some (.mt (stA ls r) (stA ls r + e)) := hm
    obtain ⟨H', h1, h2⟩ := ev_test T hI hv (ev_start B hm')
    refine ⟨r, e, H', rfl, h1, ?_, hm'⟩
    have : ev cx.toCx (.var "m") σ = .ok (.mt (stA ls r) (stA ls r + e)) σ := by simp only [evq_none, evq_bool, evq_int, evq_str, evq_var, evq_cv, evq_glob, evq_bin, evq_neg, evq_not, evq_cmp, evq_and, evq_or, evq_ite, evq_idx, evq_slc, evq_attr, evq_list, evq_tup, evq_nil, evq_cons, evq_call, evq_meth, evq_comp, evq_lam, evq_named, hm']
    have h3 : ev cx.toCx (.and (.var "m") (.not (.call (.var "is_char_in_string") (.cons (.meth (.var "m") "start" .nil) .nil)))) σ = condR (.mt (stA ls r) (stA ls r + e)) σ (ev cx.toCx (.not (.call (.var "is_char_in_string") (.cons (.meth (.var "m") "start" .nil) .nil)))) (fun σ₁ => .ok (.mt (stA ls r) (stA ls r + e)) σ₁) := (Rs.bind_ok this : _)
    rw [h3]
    unfold condR
    simp only [truV]
    exact h2

/-- one try -/
theorem body_run {c : Nat} (T : TestOk cx vt I test) (B : Bs cx) (hL : Lines ls) (hsz : (flat ls).length ≤ sizeLine) {k : Nat} (hk : k ≤ ls.length) (hF0 : Fr σ ls vt .none) (hl0 : σ.loc.lookup ("limit" : PySem.Str) = some (.int (stA ls k))) (hI0 : I (c + 1) m σ.toHp) {Q : Fl → St → Prop}
    (hstop : ∀ σ', colB ls k = none → Fr σ' ls vt .none → I c m σ'.toHp → Q .brk σ')
    (hfound : ∀ σ' j r e, colB ls k = some j → wordF ls (k - j) j = some (r, e) → (test (stA ls r) m).1 = false → Fr σ' ls vt (.int (stA ls r)) → I c (test (stA ls r) m).2 σ'.toHp → Q .brk σ')
    (hgo : ∀ σ' j m', colB ls k = some j → (∀ n, tryG ls test (n + 1) k m = tryG ls test n j m') → Fr σ' ls vt .none → σ'.loc.lookup ("limit" : PySem.Str) = some (.int (stA ls j)) → I c m' σ'.toHp → Q .next σ') :
    Gd (ex body_S cx σ) Q := by
  refine gd_seq (gd_asg (ev_rfind B hF0.code hl0 (by rw [txt_len]; exact stA_le)) ?_)
  rw [rf_colI hL hk]
  cases hc : colB ls k with
  | none =>
    refine gd_seq (gd_ite (v := .bool true) (t := true) (by simp only [evq_none, evq_bool, evq_int, evq_str, evq_var, evq_cv, evq_glob, evq_bin, evq_neg, evq_not, evq_cmp, evq_and, evq_or, evq_ite, evq_idx, evq_slc, evq_attr, evq_list, evq_tup, evq_nil, evq_cons, evq_call, evq_meth, evq_comp, evq_lam, evq_named, look_eq, Rs.bind, cLtI, Ov.st]; rfl) rfl (fun _ => ?_) (fun q => by cases q))
    exact gd_seq ⟨_, _, rfl, hstop _ hc (hF0.set (by decide) (by decide) (by decide)) (T.less _ _ _ hI0)⟩
  | some j =>
    obtain ⟨c1, c2, c3⟩ := colB_some hc
    obtain ⟨hj, c4, _⟩ := colonAt_lt c2
    have hs := stA_succ hj
    have hle : stA ls j ≤ stA ls (j + 1) - 2 := by rw [hs]; exact Nat.le_sub_of_add_le (Nat.add_le_add_left (Nat.succ_le_succ c4) _)
    have hlt : stA ls (j + 1) - 2 < stA ls (j + 1) := Nat.sub_lt (by rw [hs]; exact Nat.succ_pos _) (by decide)
    dsimp only
    generalize stA ls (j + 1) - 2 = q at hle hlt ⊢
    refine gd_seq (gd_ite (v := .bool false) (t := false) (by
      simp only [evq_none, evq_bool, evq_int, evq_str, evq_var, evq_cv, evq_glob, evq_bin, evq_neg, evq_not, evq_cmp, evq_and, evq_or, evq_ite, evq_idx, evq_slc, evq_attr, evq_list, evq_tup, evq_nil, evq_cons, evq_call, evq_meth, evq_comp, evq_lam, evq_named, look_eq, Rs.bind, cLtI, Ov.st]
      rw [decide_eq_false (Int.not_lt.mpr (Int.natCast_nonneg q))]) rfl (fun q => by cases q) (fun _ => gd_nil ?_))
    have hF1 : Fr (σ.set "i" (.int (q : Int))) ls vt .none := hF0.set (by decide) (by decide) (by decide)
    have hl1 : (σ.set "i" (.int (q : Int))).loc.lookup ("limit" : PySem.Str) = some (.int (stA ls k)) := look_ne (by decide) hl0
    have hi1 : (σ.set "i" (.int (q : Int))).loc.lookup ("i" : PySem.Str) = some (.int (q : Int)) := look_eq
    have hI1 : I (c + 1) m (σ.set "i" (.int (q : Int))).toHp := hI0
    generalize σ.set "i" (.int (q : Int)) = σ at hF1 hl1 hi1 hI1 ⊢
    have hrf := ev_rfind (y := "\n") B hF1.code hi1 (by rw [txt_len]; exact Nat.le_trans (Nat.le_of_lt hlt) stA_le)
    refine gd_seq (gd_asg (v := .int (stA ls j : Int)) (σ₁ := σ) (by
      show (ev cx.toCx _ σ).bind _ = _
      rw [hrf]
      show (binV σ.toHp .Add (.int (rfindI (txt ls) "\n" 0 q)) (.int 1)).st σ = _
      rw [bAddI, rf_nl hL hj hle hlt]; rfl) ?_)
    have hF2 : Fr (σ.set "i" (.int (stA ls j : Int))) ls vt .none := hF1.set (by decide) (by decide) (by decide)
    have hl2 : (σ.set "i" (.int (stA ls j : Int))).loc.lookup ("limit" : PySem.Str) = some (.int (stA ls k)) := look_ne (by decide) hl1
    have hi2 : (σ.set "i" (.int (stA ls j : Int))).loc.lookup ("i" : PySem.Str) = some (.int (stA ls j : Int)) := look_eq
    have hI2 : I (c + 1) m (σ.set "i" (.int (stA ls j : Int))).toHp := hI1
    generalize σ.set "i" (.int (stA ls j : Int)) = σ at hF2 hl2 hi2 hI2 ⊢
    refine gd_seq (gd_asg (ev_search3 B hL hsz hk (Nat.le_of_lt c1) hF2.code hi2 hl2) ?_)
    generalize hw : wordF ls (k - j) j = o
    have hm3 := @look_eq σ "m" (mtV (o.map fun x => (stA ls x.1, stA ls x.1 + x.2)))
    have hF3 : Fr (σ.set "m" (mtV (o.map fun x => (stA ls x.1, stA ls x.1 + x.2)))) ls vt .none := hF2.set (by decide) (by decide) (by decide)
    have hi3 : (σ.set "m" (mtV (o.map fun x => (stA ls x.1, stA ls x.1 + x.2)))).loc.lookup ("i" : PySem.Str) = some (.int (stA ls j : Int)) := look_ne (by decide) hi2
    have hI3 : I (c + 1) m (σ.set "m" (mtV (o.map fun x => (stA ls x.1, stA ls x.1 + x.2)))).toHp := hI2
    generalize σ.set "m" (mtV (o.map fun x => (stA ls x.1, stA ls x.1 + x.2))) = σ at hF3 hi3 hI3 hm3 ⊢
    have tail : ∀ (σ : St) (m' : M), (∀ n, tryG ls test (n + 1) k m = tryG ls test n j m') → Fr σ ls vt .none → σ.loc.lookup ("i" : PySem.Str) = some (.int (stA ls j : Int)) → I c m' σ.toHp → Gd (ex (.seq (.asg "limit" (.var "i")) .nil) cx σ) Q := fun σ m' hG hF hi hI =>
      gd_seq (gd_asg (v := .int (stA ls j : Int)) (σ₁ := σ) (by simp only [evq_none, evq_bool, evq_int, evq_str, evq_var, evq_cv, evq_glob, evq_bin, evq_neg, evq_not, evq_cmp, evq_and, evq_or, evq_ite, evq_idx, evq_slc, evq_attr, evq_list, evq_tup, evq_nil, evq_cons, evq_call, evq_meth, evq_comp, evq_lam, evq_named, hi]) (gd_nil (hgo _ j m' hc hG (hF.set (by decide) (by decide) (by decide)) look_eq hI)))
    rcases ev_and T B hI3 hF3.tst hm3 with ⟨rfl, he⟩ | ⟨r', e, H', rfl, hI4, he, hm4⟩
    · refine gd_seq (gd_ite (t := false) he rfl (fun q => by cases q) (fun _ => gd_nil ?_))
      exact tail σ m (fun n => by rw [tryG, hc]; dsimp only; rw [hw]) hF3 hi3 (T.less _ _ _ hI3)
    · cases hb : (test (stA ls r') m).1 with
      | true =>
        rw [hb] at he
        refine gd_seq (gd_ite (t := false) he rfl (fun q => by cases q) (fun _ => gd_nil ?_))
        exact tail _ _ (fun n => by rw [tryG, hc]; dsimp only; rw [hw]; dsimp only; rw [if_pos hb]) hF3.hp hi3 hI4
      | false =>
        rw [hb] at he
        refine gd_seq (gd_ite (t := true) he rfl (fun _ => ?_) (fun q => by cases q))
        have hm5 : ({ σ with toHp := H' } : St).loc.lookup ("m" : PySem.Str) = some (.mt (stA ls r') (stA ls r' + e)) := hm4
        exact gd_seq (gd_asg (ev_start B hm5) (gd_seq ⟨_, _, rfl, hfound _ j r' e hc hw hb hF3.hp.setP hI4⟩))

theorem each_run {c : Nat} (T : TestOk cx vt I test) (B : Bs cx) (hL : Lines ls) (hsz : (flat ls).length ≤ sizeLine) (h : Fr σ ls vt .none) (hl : σ.loc.lookup ("limit" : PySem.Str) = some (.int (stA ls ls.length))) (hI : I (c + 5) m σ.toHp) :
    Gd (ex each_S cx σ) fun f σ' => f = .next ∧ Fr σ' ls vt (rowV ls (tryG ls test 5 ls.length m).1) ∧ I c (tryG ls test 5 ls.length m).2 σ'.toHp := by
  generalize hR : tryG ls test 5 ls.length m = R
  have hr : ev cx.toCx (.call (.glob "range") (.cons (.int 5) .nil)) σ = .ok (.rng 0 5 1) σ := by
    have e : tapp "range" [.int 5] σ.toHp = okH (.rng 0 5 1) σ.toHp := by
      unfold tapp; rw [if_pos rfl]
      show (if Builtin.Range.small 0 5 1 = true then okH (V.rng 0 5 1) σ.toHp else .bad) = _
      rw [if_pos (by decide +kernel)]
    simp only [evq_none, evq_bool, evq_int, evq_str, evq_var, evq_cv, evq_glob, evq_bin, evq_neg, evq_not, evq_cmp, evq_and, evq_or, evq_ite, evq_idx, evq_slc, evq_attr, evq_list, evq_tup, evq_nil, evq_cons, evq_call, evq_meth, evq_comp, evq_lam, evq_named, B.rng, Rs.bind, argR, B.t, e, okH, Rs.lift]
  have hi : ∀ H : Hp, itsV H (.rng 0 5 1) = some [.int 0, .int 1, .int 2, .int 3, .int 4] := fun H => rfl
  refine gd_each hr (hi _) (fun l σ => ∃ k m', k ≤ ls.length ∧ Fr σ ls vt .none ∧ σ.loc.lookup ("limit" : PySem.Str) = some (.int (stA ls k)) ∧ I (c + l.length) m' σ.toHp ∧ tryG ls test l.length k m' = R) ⟨ls.length, m, Nat.le_refl _, h, hl, hI, hR⟩ (fun l σ _ => hi _) ?_ ?_
  · rintro y r σ ⟨k, m', hk, hF, hlm, hI, hG⟩
    have hG' : tryG ls test (r.length + 1) k m' = R := hG
    refine body_run T B hL hsz hk (hF.set (by decide) (by decide) (by decide)) (look_ne (by decide) hlm) hI (fun σ' hc hF' hI' => ?_) (fun σ' j r' e hc hw hb hF' hI' => ?_) (fun σ' j m'' hc hG2 hF' hl' hI' => ?_)
    · rw [tryG, hc] at hG'
      rw [← hG']
      exact ⟨rfl, hF', T.le (Nat.le_add_right _ _) hI'⟩
    · rw [tryG, hc] at hG'
      dsimp only at hG'
      rw [hw] at hG'
      dsimp only at hG'
      rw [if_neg (by rw [hb]; exact Bool.false_ne_true)] at hG'
      rw [← hG']
      exact ⟨rfl, hF', T.le (Nat.le_add_right _ _) hI'⟩
    · exact ⟨j, m'', Nat.le_trans (Nat.le_of_lt (colB_some hc).1) hk, hF', hl', hI', (hG2 _).symm.trans hG'⟩
  · rintro σ ⟨k, m', hk, hF, hlm, hI, hG⟩
    have hG' : (none, m') = R := hG
    rw [← hG']
    exact ⟨rfl, hF, hI⟩
end
end Mine.Tx
end
noncomputable section
set_option Elab.async false
set_option linter.all false
set_option maxRecDepth 100000
set_option maxHeartbeats 1000000
namespace Mine.Tx
open PySem PySem.W PyProof.Rows Mine Mine.Re

section
variable {M : Type} {cx : Sx} {σ : St} {ls : List (List Nat)} {vt : V} {I : Nat → M → Hp → Prop} {test : Nat → M → Bool × M} {m : M}

theorem none_run {c : Nat} (T : TestOk cx vt I test) (B : Bs cx) (hL : Lines ls) (hsz : (flat ls).length ≤ sizeLine) (h : Fr σ ls vt .none) (hI : I (c + 1) m σ.toHp) :
    Gd (ex none_S cx σ) fun f σ' => f = .ret (rowV ls (firstG ls test m).1) ∧ I c (firstG ls test m).2 σ'.toHp := by
  unfold none_S firstG
  refine gd_seq (gd_asg (ev_search1 B hL hsz h.code) ?_)
  have hm3 := @look_eq σ "m" (mtV ((wordF ls ls.length 0).map fun x => (stA ls x.1, stA ls x.1 + x.2)))
  have hF3 : Fr (σ.set "m" (mtV ((wordF ls ls.length 0).map fun x => (stA ls x.1, stA ls x.1 + x.2)))) ls vt .none := h.set (by decide) (by decide) (by decide)
  have hI3 : I (c + 1) m (σ.set "m" (mtV ((wordF ls ls.length 0).map fun x => (stA ls x.1, stA ls x.1 + x.2)))).toHp := hI
  generalize σ.set "m" (mtV ((wordF ls ls.length 0).map fun x => (stA ls x.1, stA ls x.1 + x.2))) = σ at hF3 hI3 hm3 ⊢
  rcases ev_and T B hI3 hF3.tst hm3 with ⟨ho, he⟩ | ⟨r', e, H', ho, hI4, he, hm4⟩
  · rw [ho]
    refine gd_seq (gd_ite (t := false) he rfl (fun q => by cases q) (fun _ => gd_nil ?_))
    exact gd_seq (gd_ret (v := .none) (σ₁ := σ) (by simp only [evq_none, evq_bool, evq_int, evq_str, evq_var, evq_cv, evq_glob, evq_bin, evq_neg, evq_not, evq_cmp, evq_and, evq_or, evq_ite, evq_idx, evq_slc, evq_attr, evq_list, evq_tup, evq_nil, evq_cons, evq_call, evq_meth, evq_comp, evq_lam, evq_named, hF3.pos]) ⟨rfl, T.less _ _ _ hI3⟩)
  · rw [ho]
    dsimp only
    cases hb : (test (stA ls r') m).1 with
    | true =>
      rw [hb] at he
      refine gd_seq (gd_ite (t := false) he rfl (fun q => by cases q) (fun _ => gd_nil ?_))
      exact gd_seq (gd_ret (v := .none) (σ₁ := { σ with toHp := H' }) (by simp only [evq_none, evq_bool, evq_int, evq_str, evq_var, evq_cv, evq_glob, evq_bin, evq_neg, evq_not, evq_cmp, evq_and, evq_or, evq_ite, evq_idx, evq_slc, evq_attr, evq_list, evq_tup, evq_nil, evq_cons, evq_call, evq_meth, evq_comp, evq_lam, evq_named, hF3.pos]) ⟨rfl, hI4⟩)
    | false =>
      rw [hb] at he
      refine gd_seq (gd_ite (t := true) he rfl (fun _ => ?_) (fun q => by cases q))
      have hm5 : ({ σ with toHp := H' } : St).loc.lookup ("m" : PySem.Str) = some (.mt (stA ls r') (stA ls r' + e)) := hm4
      refine gd_seq (gd_asg (ev_start B hm5) (gd_nil ?_))
      refine gd_seq (gd_ret (v := .int (stA ls r' : Int)) (σ₁ := ({ σ with toHp := H' } : St).set "pos" (.int (stA ls r' : Int))) ?_ ⟨rfl, hI4⟩)
      have := @look_eq { σ with toHp := H' } "pos" (.int (stA ls r' : Int))
      simp only [evq_none, evq_bool, evq_int, evq_str, evq_var, evq_cv, evq_glob, evq_bin, evq_neg, evq_not, evq_cmp, evq_and, evq_or, evq_ite, evq_idx, evq_slc, evq_attr, evq_list, evq_tup, evq_nil, evq_cons, evq_call, evq_meth, evq_comp, evq_lam, evq_named, this]

/-- one turn of the last loop -/
theorem wbody_run {c : Nat} (T : TestOk cx vt I test) (B : Bs cx) {r e pos : Nat} (hm : σ.loc.lookup ("m" : PySem.Str) = some (.mt (stA ls r) (stA ls r + e))) (hF : Fr σ ls vt (.int (stA ls pos))) (hI : I (c + 1) m σ.toHp) {Q : Fl → St → Prop}
    (h : ∀ σ', Fr σ' ls vt (.int (stA ls (if (test (stA ls r) m).1 = true then pos else r))) → σ'.loc.lookup ("i" : PySem.Str) = some (.int ((stA ls r + e : Nat) : Int)) → I c (test (stA ls r) m).2 σ'.toHp → Q .next σ') : Gd (ex wbody_S cx σ) Q := by
  refine gd_seq (gd_asg2 (ev_span B hm) ?_)
  have hs2 : ((σ.set "s" (.int (stA ls r : Nat))).set "i" (.int ((stA ls r + e : Nat) : Int))).loc.lookup ("s" : PySem.Str) = some (.int (stA ls r : Nat)) := look_ne (by decide) look_eq
  have hi2 : ((σ.set "s" (.int (stA ls r : Nat))).set "i" (.int ((stA ls r + e : Nat) : Int))).loc.lookup ("i" : PySem.Str) = some (.int ((stA ls r + e : Nat) : Int)) := look_eq
  have hF2 : Fr ((σ.set "s" (.int (stA ls r : Nat))).set "i" (.int ((stA ls r + e : Nat) : Int))) ls vt (.int (stA ls pos)) := (hF.set (by decide) (by decide) (by decide)).set (by decide) (by decide) (by decide)
  have hI2 : I (c + 1) m ((σ.set "s" (.int (stA ls r : Nat))).set "i" (.int ((stA ls r + e : Nat) : Int))).toHp := hI
  generalize (σ.set "s" (.int (stA ls r : Nat))).set "i" (.int ((stA ls r + e : Nat) : Int)) = σ at hs2 hi2 hF2 hI2 ⊢
  obtain ⟨H', hI3, he⟩ := ev_test T hI2 hF2.tst (e := .var "s") (p := stA ls r) (by simp only [evq_none, evq_bool, evq_int, evq_str, evq_var, evq_cv, evq_glob, evq_bin, evq_neg, evq_not, evq_cmp, evq_and, evq_or, evq_ite, evq_idx, evq_slc, evq_attr, evq_list, evq_tup, evq_nil, evq_cons, evq_call, evq_meth, evq_comp, evq_lam, evq_named, hs2])
  cases hb : (test (stA ls r) m).1 with
  | true =>
    rw [hb] at he
    rw [if_pos hb] at h
    exact gd_seq (gd_ite (t := false) he rfl (fun q => by cases q) (fun _ => gd_nil (gd_nil (h _ hF2.hp hi2 hI3))))
  | false =>
    rw [hb] at he
    rw [if_neg (by rw [hb]; exact Bool.false_ne_true)] at h
    exact gd_seq (gd_ite (t := true) he rfl (fun _ => gd_seq (gd_asg (v := .int (stA ls r : Nat)) (σ₁ := { σ with toHp := H' }) (by simp only [evq_none, evq_bool, evq_int, evq_str, evq_var, evq_cv, evq_glob, evq_bin, evq_neg, evq_not, evq_cmp, evq_and, evq_or, evq_ite, evq_idx, evq_slc, evq_attr, evq_list, evq_tup, evq_nil, evq_cons, evq_call, evq_meth, evq_comp, evq_lam, evq_named, hs2]) (gd_nil (gd_nil (h _ hF2.hp.setP (look_ne (by decide) hi2) hI3))))) (fun q => by cases q))

theorem while_run (T : TestOk cx vt I test) (B : Bs cx) (hL : Lines ls) (hsz : (flat ls).length ≤ sizeLine) (hn : ls.length < 1000) {a p pos : Nat} (h1 : a ≤ ls.length) (h2 : p ≤ stA ls a) (h3 : ∀ r, r < a → stA ls r < p) (h : Fr σ ls vt (.int (stA ls pos)))
    (hi : σ.loc.lookup ("i" : PySem.Str) = some (.int (p : Nat))) (hI : I (ls.length - a) m σ.toHp) :
    Gd (ex while_S cx σ) fun f σ' => f = .next ∧ Fr σ' ls vt (.int (stA ls (lastG ls test (ls.length - a) a pos m).1)) ∧ I 0 (lastG ls test (ls.length - a) a pos m).2 σ'.toHp := by
  generalize hR : lastG ls test (ls.length - a) a pos m = R
  refine gd_loop (fun n σ => ∃ a p pos m', a ≤ ls.length ∧ p ≤ stA ls a ∧ (∀ r, r < a → stA ls r < p) ∧ Fr σ ls vt (.int (stA ls pos)) ∧ σ.loc.lookup ("i" : PySem.Str) = some (.int (p : Nat)) ∧ I (ls.length - a) m' σ.toHp ∧ lastG ls test (ls.length - a) a pos m' = R ∧ ls.length - a < n)
    ⟨a, p, pos, m, h1, h2, h3, h, hi, hI, hR, Nat.lt_of_le_of_lt (Nat.sub_le _ _) hn⟩ ?_
  rintro n σ ⟨a, p, pos, m', h1, h2, h3, hF, hi, hI, hG, hlt⟩
  obtain ⟨n, rfl⟩ : ∃ k, n = k + 1 := ⟨n - 1, (Nat.succ_pred_eq_of_pos (Nat.lt_of_le_of_lt (Nat.zero_le _) hlt)).symm⟩
  refine ⟨n, rfl, ?_⟩
  have hs := ev_search2 B hL hsz h1 h2 h3 hF.code hi
  rw [lastG_skip] at hG
  generalize hw : wordF ls (ls.length - a) a = o at hs hG
  have hev : ev cx.toCx (.named "m" (.call (.glob "_synchre") (.cons (.var "code") (.cons (.var "i") .nil)))) σ = .ok (mtV (o.map fun x => (stA ls x.1, stA ls x.1 + x.2))) (σ.set "m" (mtV (o.map fun x => (stA ls x.1, stA ls x.1 + x.2)))) := (Rs.bind_ok hs : _)
  cases o with
  | none =>
    refine ⟨_, _, false, hev, rfl, (fun q => by cases q), fun _ => ?_⟩
    have hG' : (pos, m') = R := hG
    rw [← hG']
    exact ⟨rfl, hF.set (by decide) (by decide) (by decide), T.le (Nat.zero_le _) hI⟩
  | some x =>
    obtain ⟨r, e⟩ := x
    obtain ⟨w1, w2, w3, w4⟩ := wordF_some hw
    obtain ⟨hr, w5, w6⟩ := wordAt_lt w3
    have hsr := stA_succ hr
    have hG' : lastG ls test (a + (ls.length - a) - (r + 1)) (r + 1) (if (test (stA ls r) m').1 = true then pos else r) (test (stA ls r) m').2 = R := hG
    rw [Nat.add_sub_cancel' h1] at hG'
    refine ⟨_, _, true, hev, rfl, fun _ => wbody_run (c := ls.length - (r + 1)) T B look_eq (hF.set (by decide) (by decide) (by decide)) (T.le (by omega) hI) fun σ' hF' hi' hI' => ?_, (fun q => by cases q)⟩
    refine ⟨r + 1, stA ls r + e, _, _, hr, ?_, fun q hq => ?_, hF', hi', hI', hG', ?_⟩
    · rw [hsr]; exact Nat.le_succ_of_le (Nat.add_le_add_left w6 _)
    · exact Nat.lt_of_le_of_lt (stA_mono (Nat.le_of_lt_succ hq)) (Nat.lt_add_of_pos_right (Nat.lt_of_lt_of_le (by decide) w5))
    · exact Nat.lt_of_lt_of_le (Nat.sub_lt_sub_left (Nat.lt_of_le_of_lt w1 hr) (Nat.lt_succ_of_le w1)) (Nat.le_of_lt_succ hlt)

theorem find_run (T : TestOk cx vt I test) (B : Bs cx) (hL : Lines ls) (hsz : (flat ls).length ≤ sizeLine) (hn : ls.length < 1000) {k : Nat} (h1 : σ.loc.lookup ("self" : PySem.Str) = some (.ref k)) (h2 : σ.loc.lookup ("is_char_in_string" : PySem.Str) = some vt)
    (hf : cx.fld (.ref k) "code" σ.toHp = .ok (.str (txt ls))) (hI : I (ls.length + 1 + 5) m σ.toHp) :
    Gd (ex find_S cx σ) fun f σ' => f = .ret (rowV ls (findG ls test m).1) ∧ I 0 (findG ls test m).2 σ'.toHp := by
  rw [find_eq]
  have ht : ev cx.toCx (.tup (.cons (.attr (.var "self") "code") (.cons .none .nil))) σ = .ok (.tup [.str (txt ls), .none]) σ := by
    simp only [evq_none, evq_bool, evq_int, evq_str, evq_var, evq_cv, evq_glob, evq_bin, evq_neg, evq_not, evq_cmp, evq_and, evq_or, evq_ite, evq_idx, evq_slc, evq_attr, evq_list, evq_tup, evq_nil, evq_cons, evq_call, evq_meth, evq_comp, evq_lam, evq_named, h1, Rs.bind, hf, Ov.st, argR, fits, List.length_cons, List.length_nil]
    rw [if_pos (by decide)]
  refine gd_seq (gd_asg2 ht ?_)
  have hF : Fr ((σ.set "code" (.str (txt ls))).set "pos" .none) ls vt .none := ⟨look_ne (by decide) look_eq, look_ne (by decide) (look_ne (by decide) h2), look_eq⟩
  have hI1 : I (ls.length + 1 + 5) m ((σ.set "code" (.str (txt ls))).set "pos" .none).toHp := hI
  generalize (σ.set "code" (.str (txt ls))).set "pos" .none = σ at hF hI1 ⊢
  have hlen : ev cx.toCx (.call (.glob "len") (.cons (.var "code") .nil)) σ = .ok (.int (stA ls ls.length)) σ := by
    have e : bapp "len" [.str (txt ls)] σ.toHp = okH (.int (stA ls ls.length)) σ.toHp := by
      unfold bapp; rw [if_pos rfl]
      show okH (.int (txt ls).length) σ.toHp = _
      rw [txt_len, stA_all]
    simp only [evq_none, evq_bool, evq_int, evq_str, evq_var, evq_cv, evq_glob, evq_bin, evq_neg, evq_not, evq_cmp, evq_and, evq_or, evq_ite, evq_idx, evq_slc, evq_attr, evq_list, evq_tup, evq_nil, evq_cons, evq_call, evq_meth, evq_comp, evq_lam, evq_named, B.len, hF.code, Rs.bind, argR, B.b, e, okH, Rs.lift]
  refine gd_seq (gd_asg hlen ?_)
  have hE := each_run T B hL hsz (hF.set (x := "limit") (v := .int (stA ls ls.length)) (by decide) (by decide) (by decide)) look_eq hI1
  refine gd_seq (hE.mono ?_)
  rintro f σ' ⟨rfl, hF2, hI2⟩
  dsimp only
  unfold findG
  cases hG : tryG ls test 5 ls.length m with
  | mk o m' =>
  rw [hG] at hF2 hI2
  cases o with
  | none =>
    dsimp only at hF2 hI2 ⊢
    refine gd_seq (gd_ite (v := .bool true) (t := true) (σ₁ := σ') (by simp only [evq_none, evq_bool, evq_int, evq_str, evq_var, evq_cv, evq_glob, evq_bin, evq_neg, evq_not, evq_cmp, evq_and, evq_or, evq_ite, evq_idx, evq_slc, evq_attr, evq_list, evq_tup, evq_nil, evq_cons, evq_call, evq_meth, evq_comp, evq_lam, evq_named, hF2.pos, rowV, Rs.bind, cIsNN, Ov.st]) rfl (fun _ => ?_) (fun q => by cases q))
    refine (none_run T B hL hsz hF2 hI2).mono ?_
    rintro f σ'' ⟨rfl, h3⟩
    exact ⟨rfl, T.le (Nat.zero_le _) h3⟩
  | some r =>
    dsimp only at hF2 hI2 ⊢
    have hr : r < ls.length := by
      have key : ∀ (n k : Nat) (m m' : M), k ≤ ls.length → tryG ls test n k m = (some r, m') → r < ls.length := by
        intro n
        induction n with
        | zero => intro k m m' _ h; cases h
        | succ n ih =>
          intro k m m' hk h
          unfold tryG at h
          cases hc : colB ls k with
          | none => rw [hc] at h; cases h
          | some j =>
            rw [hc] at h
            dsimp only at h
            have hj := (colB_some hc).1
            cases hw : wordF ls (k - j) j with
            | none => rw [hw] at h; exact ih j m m' (by omega) h
            | some x =>
              obtain ⟨r', e⟩ := x
              rw [hw] at h
              dsimp only at h
              split at h
              · exact ih j _ m' (by omega) h
              · cases h
                exact (wordAt_lt (wordF_some hw).2.2.1).1
      exact key 5 ls.length m m' (Nat.le_refl _) hG
    have hsr := stA_succ hr
    refine gd_seq (gd_ite (v := .bool false) (t := false) (σ₁ := σ') (by simp only [evq_none, evq_bool, evq_int, evq_str, evq_var, evq_cv, evq_glob, evq_bin, evq_neg, evq_not, evq_cmp, evq_and, evq_or, evq_ite, evq_idx, evq_slc, evq_attr, evq_list, evq_tup, evq_nil, evq_cons, evq_call, evq_meth, evq_comp, evq_lam, evq_named, hF2.pos, rowV, Rs.bind, cIsNI, Ov.st]) rfl (fun q => by cases q) (fun _ => gd_nil ?_))
    refine gd_seq (gd_asg (v := .int ((stA ls r + 1 : Nat) : Int)) (σ₁ := σ') (by
      simp only [evq_none, evq_bool, evq_int, evq_str, evq_var, evq_cv, evq_glob, evq_bin, evq_neg, evq_not, evq_cmp, evq_and, evq_or, evq_ite, evq_idx, evq_slc, evq_attr, evq_list, evq_tup, evq_nil, evq_cons, evq_call, evq_meth, evq_comp, evq_lam, evq_named, hF2.pos, rowV, Rs.bind, bAddI, Ov.st]; rfl) ?_)
    have hW := while_run (m := m') (pos := r) (a := r + 1) (p := stA ls r + 1) (σ := σ'.set "i" (.int ((stA ls r + 1 : Nat) : Int))) T B hL hsz hn hr (by omega) (fun q hq => by
      have := stA_mono (ls := ls) (show q ≤ r by omega); omega) (hF2.set (by decide) (by decide) (by decide)) look_eq (T.le (Nat.le_succ_of_le (Nat.sub_le _ _)) hI2)
    refine gd_seq (hW.mono ?_)
    rintro f σ'' ⟨rfl, hF3, hI3⟩
    exact gd_seq (gd_ret (σ₁ := σ'') (by simp only [evq_none, evq_bool, evq_int, evq_str, evq_var, evq_cv, evq_glob, evq_bin, evq_neg, evq_not, evq_cmp, evq_and, evq_or, evq_ite, evq_idx, evq_slc, evq_attr, evq_list, evq_tup, evq_nil, evq_cons, evq_call, evq_meth, evq_comp, evq_lam, evq_named, hF3.pos]; rfl) ⟨rfl, hI3⟩)
end
end Mine.Tx
end
noncomputable section
set_option Elab.async false
set_option linter.all false
set_option maxRecDepth 100000
set_option maxHeartbeats 1000000
namespace Mine.Tx
open PySem PySem.W PyProof.Rows Mine Mine.Re

noncomputable def init_S : S := (.seq (.setA (.var "self") "indentwidth" (.var "indentwidth")) (.seq (.setA (.var "self") "tabwidth" (.var "tabwidth")) .nil))
noncomputable def setcode_S : S := (.seq (.assert (.or (.cmp .Eq (.call (.glob "len") (.cons (.var "s") .nil)) (.int 0)) (.cmp .Eq (.idx (.var "s") (.neg (.int 1))) (.str "\n")))) (.seq (.setA (.var "self") "code" (.var "s")) (.seq (.setA (.var "self") "study_level" (.int 0)) .nil)))
noncomputable def scI : Scope := { kind := .function, names := [("self", .local), ("indentwidth", .local), ("tabwidth", .local)], isGenerator := false, isCoroutine := false }
noncomputable def scS : Scope := { kind := .function, names := [("self", .local), ("s", .local), ("len", .globalImplicit)], isGenerator := false, isCoroutine := false }
noncomputable def scFind : Scope := { kind := .function, names := [("self", .local), ("is_char_in_string", .local), ("code", .local), ("pos", .local), ("limit", .local), ("tries", .local), ("i", .local), ("m", .local), ("s", .local), ("len", .globalImplicit), ("range", .globalImplicit), ("_synchre", .globalImplicit)], isGenerator := false, isCoroutine := false }

/-- what the laws ask of their program -/
structure Pg (G : Prg) (rows : Rows) (fI fC fF : Addr) : Prop where
  cs : G.C ≠ G.srch
  ri : rows.lookup fI = some (scI, (["self", "indentwidth", "tabwidth"] : List PySem.Str), init_S)
  rc : rows.lookup fC = some (scS, (["self", "s"] : List PySem.Str), setcode_S)
  rf : rows.lookup fF = some (scFind, (["self", "is_char_in_string"] : List PySem.Str), find_S)
  nC : fC ≠ G.C ∧ fC ≠ G.srch
  nF : fF ≠ G.C ∧ fF ≠ G.srch
  mC : G.meths.lookup ("set_code" : PySem.Str) = some fC
  mF : G.meths.lookup ("find_good_parse_start" : PySem.Str) = some fF
  flds : G.flds = (["code", "study_level", "indentwidth", "tabwidth"] : List PySem.Str)
  len : G.gl "len" = some (.top (.builtin "len"))
  rng : G.gl "range" = some (.top (.type "range"))
  syn : G.gl "_synchre" = some (.top (.ref G.srch))
  tI : tbFor G.tb fI = none
  tC : tbFor G.tb fC = none
  tF : tbFor G.tb fF = none

noncomputable def Has (G : Prg) (H : Hp) (k d : Nat) (fs : List (PySem.Str × V)) : Prop := H.obj k = some (.inst G.C d) ∧ H.obj d = some (.dict fs) ∧ k ≠ d

section
variable {G : Prg} {rows : Rows} {fI fC fF : Addr} {H : Hp} {k d : Nat} {fs : List (PySem.Str × V)} {σ : St}

theorem tower_setA (n : Nat) : (tower G rows fI n).setA = setV G := by
  match n with
  | 0 => unfold tower; rfl
  | 1 => unfold tower; rfl
  | n + 2 => unfold tower; rfl
theorem tower_fld (n : Nat) : (tower G rows fI n).fld = fldV G := by
  match n with
  | 0 => unfold tower; rfl
  | 1 => unfold tower; rfl
  | n + 2 => unfold tower; rfl
theorem tower_get (n : Nat) : (tower G rows fI n).get = getV G := by
  match n with
  | 0 => unfold tower; rfl
  | 1 => unfold tower; rfl
  | n + 2 => unfold tower; rfl
theorem tower_gl (n : Nat) : (tower G rows fI n).gl = G.gl := by
  match n with
  | 0 => unfold tower; rfl
  | 1 => unfold tower; rfl
  | n + 2 => unfold tower; rfl
theorem tower_b (n : Nat) (i : String) (args : List V) (H : Hp) : (tower G rows fI n).app (.top (.builtin i)) args H = bapp i args H := by
  match n with
  | 0 => unfold tower; rfl
  | 1 => unfold tower; rfl
  | n + 2 => unfold tower; rfl
theorem tower_t (n : Nat) (i : String) (args : List V) (H : Hp) : (tower G rows fI n).app (.top (.type i)) args H = tapp i args H := by
  match n with
  | 0 => unfold tower; rfl
  | 1 => unfold tower; rfl
  | n + 2 => unfold tower; rfl
theorem tower_s (n : Nat) (args : List V) (H : Hp) : (tower G rows fI n).app (.top (.ref G.srch)) args H = searchB args H := by
  match n with
  | 0 => unfold tower; exact if_pos rfl
  | 1 => unfold tower; exact if_pos rfl
  | n + 2 => unfold tower; exact if_pos rfl
theorem tower_l (n : Nat) (ps : List PySem.Str) (x : X) (cs : List (PySem.Str × Nat)) (args : List V) (H : Hp) : (tower G rows fI (n + 1)).app (.clo ps x cs) args H = runLam ps x cs (tower G rows fI n).toCx args H := by
  match n with
  | 0 => rw [tower]; rfl
  | n + 1 => rw [tower]; rfl
theorem tower_r (n : Nat) (a : Addr) (ha : a ≠ G.C) (hs : a ≠ G.srch) (args : List V) (H : Hp) : (tower G rows fI (n + 2)).app (.top (.ref a)) args H = rowRun G.tb rows (tower G rows fI (n + 1)) a args H := by
  rw [tower]
  exact (if_neg hs).trans (if_neg ha)
theorem tower_C (n : Nat) (hs : G.C ≠ G.srch) (args : List V) (H : Hp) : (tower G rows fI (n + 2)).app (.top (.ref G.C)) args H = makeV G.C (rowRun G.tb rows (tower G rows fI n) fI) args H := by
  rw [tower]
  exact (if_neg hs).trans (if_pos rfl)
theorem runFn_eq {sc : Scope} {ps : List PySem.Str} {b : S} {tb : Option PySem.Str} {cx : Sx} {args : List V} {H : Hp} (h : args.length = ps.length) : runFn sc ps b tb cx args H = (ex b cx (entryT tb sc (ps.zip args) H)).bind retR := if_pos h

theorem entryT_none {sc : Scope} {bv : List (PySem.Str × V)} {H : Hp} : entryT none sc bv H = entry sc bv H := rfl
theorem bs_tower (Q : Pg G rows fI fC fF) (n : Nat) : Bs (tower G rows fI n) :=
  ⟨by rw [tower_gl]; exact Q.len, by rw [tower_gl]; exact Q.rng, ⟨G.srch, by rw [tower_gl]; exact Q.syn, fun args H => tower_s n args H⟩, fun i args H => tower_b n i args H, fun i args H => tower_t n i args H,
   fun x H => by rw [tower_get]; rfl, fun p e H => by rw [tower_get]; rfl, fun p e H => by rw [tower_get]; rfl⟩

theorem instOf_has (h : Has G H k d fs) : instOf G (.ref k) H = some (k, d, fs) := by
  unfold instOf
  simp only [h.1, h.2.1, if_true]
theorem set_has (h : Has G H k d fs) {f : PySem.Str} {v : V} (hf : G.flds.contains f = true) (hl : fs.length ≤ 100) :
    ∃ H', setV G (.ref k) f v H = some H' ∧ Has G H' k d (setF f v fs) ∧ H'.nxt = H.nxt ∧ ∀ j, j ≠ d → H'.obj j = H.obj j := by
  refine ⟨{ H with obj := fun j => if j = d then some (.dict (setF f v fs)) else H.obj j }, ?_, ?_⟩
  · unfold setV
    rw [instOf_has h]
    exact if_pos ⟨hf, hl⟩
  · refine ⟨⟨?_, ?_, h.2.2⟩, rfl, fun j hj => if_neg hj⟩
    · show (if k = d then _ else H.obj k) = _
      rw [if_neg h.2.2]; exact h.1
    · show (if d = d then _ else _) = _
      rw [if_pos rfl]
theorem fld_has (h : Has G H k d fs) {f : PySem.Str} {v : V} (hf : G.flds.contains f = true) (hv : fs.lookup f = some v) (hh : handedV v = true) :
    fldV G (.ref k) f H = .ok v := by
  unfold fldV
  rw [instOf_has h]
  simp only [hf, hv, hh, if_true]
theorem meth_has (h : Has G H k d fs) {m : PySem.Str} {g : Addr} (hm : fs.lookup m = none) (hg : G.meths.lookup m = some g) (n : Nat) :
    (tower G rows fI n).get (.ref k) m H = some (.top (.ref g), [.ref k]) := by
  rw [tower_get]; unfold getV
  dsimp only
  rw [instOf_has h]
  simp only [hm, if_true, hg, Option.map_some]

theorem entryI (H : Hp) (u v w : V) : entry scI ((["self", "indentwidth", "tabwidth"] : List PySem.Str).zip [u, v, w]) H = { toHp := H, loc := [("self", u), ("indentwidth", v), ("tabwidth", w)], cel := [] } := by
  have h1 : (("indentwidth" : PySem.Str) == ("self" : PySem.Str)) = false := by decide
  have h2 : (("tabwidth" : PySem.Str) == ("self" : PySem.Str)) = false := by decide
  have h3 : (("tabwidth" : PySem.Str) == ("indentwidth" : PySem.Str)) = false := by decide
  simp [entry, scI, cellsH, List.lookup, h1, h2, h3]
theorem entryS (H : Hp) (u v : V) : entry scS ((["self", "s"] : List PySem.Str).zip [u, v]) H = { toHp := H, loc := [("self", u), ("s", v)], cel := [] } := by
  have h1 : (("s" : PySem.Str) == ("self" : PySem.Str)) = false := by decide
  simp [entry, scS, cellsH, List.lookup, h1]
theorem entryF (H : Hp) (u v : V) : entry scFind ((["self", "is_char_in_string"] : List PySem.Str).zip [u, v]) H = { toHp := H, loc := [("self", u), ("is_char_in_string", v)], cel := [] } := by
  have h1 : (("is_char_in_string" : PySem.Str) == ("self" : PySem.Str)) = false := by decide
  simp [entry, scFind, cellsH, List.lookup, h1]

noncomputable def fs0 : List (PySem.Str × V) := [("indentwidth", .int 4), ("tabwidth", .int 8)]
noncomputable def fs1 (T : PySem.Str) : List (PySem.Str × V) := setF "study_level" (.int 0) (setF "code" (.str T) fs0)

/-- a new parser -/
theorem make_run (Q : Pg G rows fI fC fF) (n : Nat) (σ : St) : ∃ H', ((tower G rows fI (n + 2)).app (.top (.ref G.C)) [.int 4, .int 8] σ.toHp).lift σ = .ok (.ref (σ.nxt + 1)) { σ with toHp := H' } ∧
    Has G H' (σ.nxt + 1) σ.nxt fs0 ∧ H'.nxt = σ.nxt + 2 ∧ ∀ j, j < σ.nxt → H'.obj j = σ.obj j := by
  rw [tower_C n Q.cs]
  let H1 := (σ.toHp.add (.dict [])).add (.inst G.C σ.nxt)
  have hh : Has G H1 (σ.nxt + 1) σ.nxt [] := by
    refine ⟨?_, ?_, by omega⟩
    · show (if σ.nxt + 1 = σ.nxt + 1 then _ else _) = _
      rw [if_pos rfl]
    · show (if σ.nxt = σ.nxt + 1 then _ else if σ.nxt = σ.nxt then _ else _) = _
      rw [if_neg (by omega), if_pos rfl]
  obtain ⟨H2, e2, h2, n2, o2⟩ := set_has (f := "indentwidth") (v := .int 4) hh (by rw [Q.flds]; rfl) (by decide)
  obtain ⟨H3, e3, h3, n3, o3⟩ := set_has (f := "tabwidth") (v := .int 8) h2 (by rw [Q.flds]; rfl) (by decide)
  have l1 : (("indentwidth" : PySem.Str) == ("self" : PySem.Str)) = false := by decide
  have l2 : (("tabwidth" : PySem.Str) == ("self" : PySem.Str)) = false := by decide
  have l3 : (("tabwidth" : PySem.Str) == ("indentwidth" : PySem.Str)) = false := by decide
  refine ⟨H3, ?_, h3, by rw [n3, n2]; rfl, fun j hj => ?_⟩
  · unfold makeV rowRun
    rw [Q.ri]
    dsimp only
    rw [runFn_eq rfl, Q.tI, entryT_none, entryI]
    have e2' : setV G (.ref (σ.toHp.nxt + 1)) "indentwidth" (.int 4) ((σ.toHp.add (.dict [])).add (.inst G.C σ.toHp.nxt)) = some H2 := e2
    simp only [init_S, exq_brk, exq_expr, exq_asg, exq_asgC, exq_own, exq_ownC, exq_setA, exq_aug, exq_ret, exq_ite, exq_loop, exq_each, exq_assert, exq_nil, exq_seq, exq_asg2, evq_none, evq_bool, evq_int, evq_str, evq_var, evq_cv, evq_glob, evq_bin, evq_neg, evq_not, evq_cmp, evq_and, evq_or, evq_ite, evq_idx, evq_slc, evq_attr, evq_list, evq_tup, evq_nil, evq_cons, evq_call, evq_meth, evq_comp, evq_lam, evq_named, List.lookup, beq_self_eq_true, l1, l2, l3, Rs.bind, tower_setA, e2', e3, Option.map_some, optS, goOn, retR, Rs.lift]
  · rw [o3 j (by omega), o2 j (by omega)]
    show (if j = σ.nxt + 1 then _ else if j = σ.nxt then _ else _) = _
    rw [if_neg (by omega), if_neg (by omega)]

theorem setcode_ok {cx : Sx} {T : PySem.Str} {H H' : Hp} (h1 : σ.loc.lookup ("self" : PySem.Str) = some (.ref k)) (h2 : σ.loc.lookup ("s" : PySem.Str) = some (.str T)) (B : Bs cx)
    (hT : T.length = 0 ∨ idxV σ.toHp (.str T) (.int (-1)) = .ok (.str "\n"))
    (hs : cx.setA (.ref k) "code" (.str T) σ.toHp = some H) (hs' : cx.setA (.ref k) "study_level" (.int 0) H = some H') : ex setcode_S cx σ = .ok .next { σ with toHp := H' } := by
  have ha : bapp "len" [.str T] σ.toHp = okH (.int T.length) σ.toHp := by unfold bapp; rw [if_pos rfl]; rfl
  by_cases h0 : T.length = 0
  · have hz : ((T.length : Int) == 0) = true := by rw [h0]; rfl
    simp only [setcode_S, exq_brk, exq_expr, exq_asg, exq_asgC, exq_own, exq_ownC, exq_setA, exq_aug, exq_ret, exq_ite, exq_loop, exq_each, exq_assert, exq_nil, exq_seq, exq_asg2, evq_none, evq_bool, evq_int, evq_str, evq_var, evq_cv, evq_glob, evq_bin, evq_neg, evq_not, evq_cmp, evq_and, evq_or, evq_ite, evq_idx, evq_slc, evq_attr, evq_list, evq_tup, evq_nil, evq_cons, evq_call, evq_meth, evq_comp, evq_lam, evq_named, h1, h2, B.len, Rs.bind, argR, B.b, ha, okH, Rs.lift, cEqI, hz, condR, truV, condS, goOn, Ov.st, hs, hs', Option.map_some, optS]
  · have hz : ((T.length : Int) == 0) = false := by simpa using h0
    have hi := hT.resolve_left h0
    have hch : (("\n" : PySem.Str).cps.toList == ("\n" : PySem.Str).cps.toList) = true := by simp
    simp only [setcode_S, exq_brk, exq_expr, exq_asg, exq_asgC, exq_own, exq_ownC, exq_setA, exq_aug, exq_ret, exq_ite, exq_loop, exq_each, exq_assert, exq_nil, exq_seq, exq_asg2, evq_none, evq_bool, evq_int, evq_str, evq_var, evq_cv, evq_glob, evq_bin, evq_neg, evq_not, evq_cmp, evq_and, evq_or, evq_ite, evq_idx, evq_slc, evq_attr, evq_list, evq_tup, evq_nil, evq_cons, evq_call, evq_meth, evq_comp, evq_lam, evq_named, h1, h2, B.len, Rs.bind, argR, B.b, ha, okH, Rs.lift, cEqI, cEqS, hz, condR, truV, condS, goOn, Ov.st, negV, hi, hch, hs, hs', Option.map_some, optS]

theorem flat_last {ls : List (List Nat)} (h : ls ≠ []) : (flat ls)[(flat ls).length - 1]? = some 10 := by
  obtain ⟨a, l, rfl⟩ : ∃ a l, ls = a ++ [l] := ⟨_, _, (List.dropLast_concat_getLast h).symm⟩
  have e2 : flat (a ++ [l]) = (flat a ++ l) ++ [10] := by
    rw [flat_append]
    simp [flat]
  rw [e2]; simp
theorem text_ends {ls : List (List Nat)} (hsz : (flat ls).length ≤ sizeLine) (H : Hp) : (txt ls).length = 0 ∨ idxV H (.str (txt ls)) (.int (-1)) = .ok (.str "\n") := by
  by_cases h : ls = []
  · left; subst h; rfl
  · right
    have h1 := flat_last h
    have hpos : 0 < (flat ls).length := by
      refine Nat.pos_of_ne_zero fun q => ?_
      rw [List.eq_nil_of_length_eq_zero q] at h1; cases h1
    have hq : seqIndex? (-1) (txt ls).length = some ((flat ls).length - 1) := by rw [txt_len]; exact ix_last hpos
    exact idx_str (by decide) hq ((txt_get _).trans h1)

theorem code_run (Q : Pg G rows fI fC fF) (n : Nat) (σ : St) {ls : List (List Nat)} (hsz : (flat ls).length ≤ sizeLine) (h : Has G σ.toHp k d fs0) :
    ∃ H', ((tower G rows fI (n + 2)).app (.top (.ref fC)) [.ref k, .str (txt ls)] σ.toHp).lift σ = .ok .none { σ with toHp := H' } ∧ Has G H' k d (fs1 (txt ls)) ∧ H'.nxt = σ.nxt ∧ ∀ j, j ≠ d → H'.obj j = σ.obj j := by
  obtain ⟨H1, a1, a2, a3, a4⟩ := set_has (f := "code") (v := .str (txt ls)) h (by rw [Q.flds]; rfl) (by decide)
  obtain ⟨H2, b1, b2, b3, b4⟩ := set_has (f := "study_level") (v := .int 0) a2 (by rw [Q.flds]; rfl) (by rw [show (setF ("code" : PySem.Str) (.str (txt ls)) fs0).length = 3 by rfl]; decide)
  refine ⟨H2, ?_, b2, by rw [b3, a3], fun j hj => by rw [b4 j hj, a4 j hj]⟩
  rw [tower_r n fC Q.nC.1 Q.nC.2]
  unfold rowRun
  rw [Q.rc]
  dsimp only
  rw [runFn_eq rfl, Q.tC, entryT_none, entryS]
  have l1 : (("s" : PySem.Str) == ("self" : PySem.Str)) = false := by decide
  have := setcode_ok (σ := ⟨σ.toHp, [("self", .ref k), ("s", .str (txt ls))], [], none⟩) (cx := tower G rows fI (n + 1)) (k := k) (T := txt ls) (H := H1) (H' := H2) (by simp [List.lookup]) (by simp [List.lookup, l1])
    (bs_tower Q _) (text_ends hsz _) (by rw [tower_setA]; exact a1) (by rw [tower_setA]; exact b1)
  rw [this]
  rfl

theorem find_call {M : Type} {I : Nat → M → Hp → Prop} {test : Nat → M → Bool × M} {m : M} {vt : V} {ls : List (List Nat)} (Q : Pg G rows fI fC fF) (n : Nat) (T : TestOk (tower G rows fI (n + 1)) vt I test) (hL : Lines ls) (hsz : (flat ls).length ≤ sizeLine) (hn : ls.length < 1000)
    (h : Has G σ.toHp k d (fs1 (txt ls))) (hI : I (ls.length + 1 + 5) m σ.toHp) :
    ∃ H', ((tower G rows fI (n + 2)).app (.top (.ref fF)) [.ref k, vt] σ.toHp).lift σ = .ok (rowV ls (findG ls test m).1) { σ with toHp := H' } ∧ I 0 (findG ls test m).2 H' := by
  have l1 : (("is_char_in_string" : PySem.Str) == ("self" : PySem.Str)) = false := by decide
  obtain ⟨f, σ', e, rfl, h2⟩ := find_run (σ := { toHp := σ.toHp, loc := [("self", .ref k), ("is_char_in_string", vt)], cel := [] }) (k := k) T (bs_tower Q (n + 1)) hL hsz hn (by simp [List.lookup]) (by simp [List.lookup, l1])
    (by rw [tower_fld]; exact fld_has h (by rw [Q.flds]; rfl) (by rfl) rfl) hI
  refine ⟨σ'.toHp, ?_, h2⟩
  rw [tower_r n fF Q.nF.1 Q.nF.2]
  unfold rowRun
  rw [Q.rf]
  dsimp only
  rw [runFn_eq rfl, Q.tF, entryT_none, entryF, e]
  rfl
end
end Mine.Tx
end
noncomputable section
set_option Elab.async false
set_option linter.all false
set_option maxRecDepth 100000
namespace Mine.Tx
open PySem PySem.W PyProof.Rows Mine Mine.Re

/-! ## the same search over rows, without a text -/
section
variable (W K B : Nat → Bool)
noncomputable def colA : Nat → Option Nat
  | 0 => none
  | k + 1 => if K k = true then some k else colA k
noncomputable def fstA : Nat → Nat → Option Nat
  | 0, _ => none
  | n + 1, a => if W a = true then some a else fstA n (a + 1)
noncomputable def tryA : Nat → Nat → List Nat → Option Nat × List Nat
  | 0, _, m => (none, m)
  | t + 1, k, m => match colA K k with
    | none => (none, m)
    | some j => match fstA W (k - j) j with
      | none => tryA t j m
      | some r => if B r = true then tryA t j (m ++ [r]) else (some r, m ++ [r])
noncomputable def lastA : Nat → Nat → Nat → List Nat → Nat × List Nat
  | 0, _, pos, m => (pos, m)
  | n + 1, a, pos, m => if W a = true then lastA n (a + 1) (if B a = true then pos else a) (m ++ [a]) else lastA n (a + 1) pos m
noncomputable def findA (n : Nat) (m : List Nat) : Option Nat × List Nat := match tryA W K B 5 n m with
  | (none, m') => (match fstA W n 0 with
    | none => (none, m')
    | some r => (if B r = true then none else some r, m' ++ [r]))
  | (some r, m') => (some (lastA W B (n - (r + 1)) (r + 1) r m').1, (lastA W B (n - (r + 1)) (r + 1) r m').2)
end

/-! ## what it tells of the rows asked -/
/-- the last row asked that isn't barred -/
noncomputable def lastFree (B : Nat → Bool) (m : List Nat) : Option Nat := (m.filter fun r => !B r).getLast?
section
variable {W K B : Nat → Bool}
theorem lastFree_snoc {m : List Nat} {r : Nat} : lastFree B (m ++ [r]) = if B r = true then lastFree B m else some r := by
  unfold lastFree
  rw [List.filter_append]
  cases h : B r <;> simp [h]
theorem fstA_some : ∀ {n a r : Nat}, fstA W n a = some r → a ≤ r ∧ r < a + n ∧ W r = true
  | 0, _, _, h => by cases h
  | n + 1, a, r, h => by
    unfold fstA at h
    split at h
    · rename_i hw; cases h; exact ⟨Nat.le_refl _, Nat.lt_add_of_pos_right (Nat.succ_pos _), hw⟩
    · obtain ⟨a1, a2, a3⟩ := fstA_some h; exact ⟨by omega, by omega, a3⟩
theorem fstA_none : ∀ {n a : Nat}, fstA W n a = none → ∀ i, a ≤ i → i < a + n → W i = false
  | 0, a, _, i, h1, h2 => by omega
  | n + 1, a, h, i, h1, h2 => by
    unfold fstA at h
    split at h
    · cases h
    · rename_i hw
      by_cases hi : i = a
      · subst hi; simpa using hw
      · exact fstA_none h i (by omega) (by omega)
theorem colA_some : ∀ {k j : Nat}, colA K k = some j → j < k
  | 0, _, h => by cases h
  | k + 1, j, h => by
    unfold colA at h
    split at h
    · cases h; exact Nat.lt_succ_self _
    · exact Nat.lt_succ_of_lt (colA_some h)

/-- the tries: all asked rows are words; if one is given it is the last one asked and the only free one -/
theorem tryA_spec (n : Nat) : ∀ (t k : Nat) (m : List Nat), k ≤ n → lastFree B m = none → (∀ r ∈ m, r < n ∧ W r = true) →
    (∀ r ∈ (tryA W K B t k m).2, r < n ∧ W r = true) ∧ lastFree B (tryA W K B t k m).2 = (tryA W K B t k m).1
  | 0, k, m, _, h1, h2 => ⟨h2, h1⟩
  | t + 1, k, m, hk, h1, h2 => by
    unfold tryA
    cases hc : colA K k with
    | none => exact ⟨h2, h1⟩
    | some j =>
      have hj := colA_some hc
      dsimp only
      cases hf : fstA W (k - j) j with
      | none => exact tryA_spec n t j m (by omega) h1 h2
      | some r =>
        obtain ⟨a1, a2, a3⟩ := fstA_some hf
        have hm : ∀ q ∈ m ++ [r], q < n ∧ W q = true := fun q hq => by
          rcases List.mem_append.mp hq with hq | hq
          · exact h2 q hq
          · rw [List.mem_singleton.mp hq]; exact ⟨by omega, a3⟩
        dsimp only
        by_cases hb : B r = true
        · rw [if_pos hb]
          exact tryA_spec n t j _ (by omega) (by rw [lastFree_snoc, if_pos hb]; exact h1) hm
        · rw [if_neg hb]
          exact ⟨hm, by rw [lastFree_snoc, if_neg hb]⟩
theorem lastA_spec (N : Nat) : ∀ (n a pos : Nat) (m : List Nat), a + n ≤ N → lastFree B m = some pos → (∀ r ∈ m, r < N ∧ W r = true) →
    (∀ r ∈ (lastA W B n a pos m).2, r < N ∧ W r = true) ∧ lastFree B (lastA W B n a pos m).2 = some (lastA W B n a pos m).1 ∧ (m ≠ [] → (lastA W B n a pos m).2 ≠ [])
  | 0, _, _, m, _, h1, h2 => ⟨h2, h1, id⟩
  | n + 1, a, pos, m, hn, h1, h2 => by
    unfold lastA
    by_cases hw : W a = true
    · rw [if_pos hw]
      have := lastA_spec N n (a + 1) (if B a = true then pos else a) (m ++ [a]) (by omega) (by
        rw [lastFree_snoc]
        by_cases hb : B a = true
        · rw [if_pos hb, if_pos hb]; exact h1
        · rw [if_neg hb, if_neg hb]) (fun q hq => by
          rcases List.mem_append.mp hq with hq | hq
          · exact h2 q hq
          · rw [List.mem_singleton.mp hq]; exact ⟨by omega, hw⟩)
      exact ⟨this.1, this.2.1, fun _ => this.2.2 (by simp)⟩
    · rw [if_neg hw]
      exact lastA_spec N n (a + 1) pos m (by omega) h1 h2

theorem findA_spec (n : Nat) : (∀ r ∈ (findA W K B n []).2, r < n ∧ W r = true) ∧ lastFree B (findA W K B n []).2 = (findA W K B n []).1 ∧ ((findA W K B n []).2 = [] ↔ ∀ i, i < n → W i = false) := by
  obtain ⟨h1, h2⟩ := tryA_spec (W := W) (K := K) (B := B) n 5 n [] (Nat.le_refl _) rfl (fun r h => by cases h)
  unfold findA
  cases ht : tryA W K B 5 n [] with
  | mk o m' =>
  rw [ht] at h1 h2
  dsimp only at h1 h2
  cases o with
  | none =>
    dsimp only
    cases hf : fstA W n 0 with
    | none =>
      have hn := fstA_none hf
      refine ⟨h1, h2, fun _ i hi => hn i (Nat.zero_le _) (by omega), fun hall => ?_⟩
      cases hm : m' with
      | nil => rfl
      | cons r q =>
        have := h1 r (by rw [hm]; exact .head _)
        rw [hall r this.1] at this; cases this.2
    | some r =>
      obtain ⟨a1, a2, a3⟩ := fstA_some hf
      refine ⟨fun q hq => ?_, ?_, fun h => ?_, fun hall => ?_⟩
      · rcases List.mem_append.mp hq with hq | hq
        · exact h1 q hq
        · rw [List.mem_singleton.mp hq]; exact ⟨by omega, a3⟩
      · show lastFree B (m' ++ [r]) = _
        rw [lastFree_snoc, h2]
      · exact absurd h (by simp)
      · rw [hall r (by omega)] at a3; cases a3
  | some r =>
    dsimp only
    have hr : r < n ∧ W r = true := by
      have hm : r ∈ m' := by
        have := List.mem_of_getLast? (show (m'.filter fun r => !B r).getLast? = some r from h2)
        exact (List.mem_filter.mp this).1
      exact h1 r hm
    have hne : m' ≠ [] := by rintro rfl; cases h2
    obtain ⟨g1, g2, g3⟩ := lastA_spec n (n - (r + 1)) (r + 1) r m' (by omega) h2 h1
    refine ⟨g1, g2, fun h => absurd h (g3 hne), fun hall => ?_⟩
    rw [hall r hr.1] at hr; cases hr.2
end
end Mine.Tx
end
noncomputable section
set_option Elab.async false
set_option linter.all false
set_option maxRecDepth 100000
namespace Mine.Tx
open PySem PySem.W PyProof.Rows Mine Mine.Re

/-- the rows lie among the lines; the other lines have neither word nor colon -/
structure Emb (ls : List (List Nat)) (W K : Nat → Bool) (n : Nat) (ρ : Nat → Nat) : Prop where
  lt : ∀ i, i < n → ρ i < ls.length
  inc : ∀ i j, i < j → j < n → ρ i < ρ j
  w : ∀ i, i < n → (wordAt ls (ρ i)).isSome = W i
  c : ∀ i, i < n → colonAt ls (ρ i) = K i
  ow : ∀ l, l < ls.length → (∀ i, i < n → l ≠ ρ i) → wordAt ls l = none
  oc : ∀ l, l < ls.length → (∀ i, i < n → l ≠ ρ i) → colonAt ls l = false

section
variable {ls : List (List Nat)} {W K B : Nat → Bool} {n : Nat} {ρ : Nat → Nat}
noncomputable def lam (ls : List (List Nat)) (n : Nat) (ρ : Nat → Nat) (k : Nat) : Nat := if k < n then ρ k else ls.length

theorem Emb.mono (E : Emb ls W K n ρ) {i j : Nat} (h : i ≤ j) (hj : j < n) : ρ i ≤ ρ j := by
  rcases Nat.lt_or_ge i j with q | q
  · exact Nat.le_of_lt (E.inc i j q hj)
  · rw [Nat.le_antisymm h q]; exact Nat.le_refl _
theorem Emb.lam_lt (E : Emb ls W K n ρ) {i k : Nat} (h : i < k) (hk : k ≤ n) : ρ i < lam ls n ρ k := by
  unfold lam
  split
  · rename_i q; exact E.inc i k h q
  · exact E.lt i (by omega)
theorem Emb.lam_le (E : Emb ls W K n ρ) (k : Nat) : lam ls n ρ k ≤ ls.length := by
  unfold lam
  split
  · rename_i q; exact Nat.le_of_lt (E.lt k q)
  · exact Nat.le_refl _
theorem Emb.of_lt (E : Emb ls W K n ρ) {i k : Nat} (hi : i < n) (h : ρ i < lam ls n ρ k) : i < k := by
  refine Nat.not_le.mp fun q => ?_
  unfold lam at h
  rw [if_pos (by omega)] at h
  have := E.mono q hi
  omega

/-- where a scan of the lines stands among the rows -/
structure At0 (n : Nat) (ρ : Nat → Nat) (a i0 : Nat) : Prop where
  lo : ∀ i, i < i0 → i < n → ρ i < a
  hi : ∀ i, i0 ≤ i → i < n → a ≤ ρ i
theorem At0.here (E : Emb ls W K n ρ) {a i0 : Nat} (A : At0 n ρ a i0) (hi : i0 < n) (h : a = ρ i0) : At0 n ρ (a + 1) (i0 + 1) :=
  ⟨fun i h1 h2 => by rcases Nat.lt_or_ge i i0 with q | q
                     · exact Nat.lt_succ_of_lt (A.lo i q h2)
                     · have : i = i0 := by omega
                       subst this; omega,
   fun i h1 h2 => by have := E.inc i0 i (by omega) h2; omega⟩
theorem At0.not (E : Emb ls W K n ρ) {a i0 : Nat} (A : At0 n ρ a i0) (h : ¬ (i0 < n ∧ a = ρ i0)) : At0 n ρ (a + 1) i0 ∧ ∀ i, i < n → a ≠ ρ i := by
  have hn : ∀ i, i < n → a ≠ ρ i := fun i hi q => by
    rcases Nat.lt_or_ge i i0 with p | p
    · have := A.lo i p hi; omega
    · have h1 := A.hi i0 (Nat.le_refl _) (by omega)
      have h2 := E.mono p hi
      exact h ⟨by omega, by omega⟩
  exact ⟨⟨fun i h1 h2 => Nat.lt_succ_of_lt (A.lo i h1 h2), fun i h1 h2 => by have := A.hi i h1 h2; have := hn i h2; omega⟩, hn⟩

theorem word_emb (E : Emb ls W K n ρ) {k : Nat} (hk : k ≤ n) : ∀ (N a i0 : Nat), a + N = lam ls n ρ k → i0 ≤ k → At0 n ρ a i0 → (wordF ls N a).map (·.1) = (fstA W (k - i0) i0).map ρ
  | 0, a, i0, h, hi, A => by
    have : i0 = k := by
      refine Nat.le_antisymm hi (Nat.not_lt.mp fun q => ?_)
      have h1 := A.hi i0 (Nat.le_refl _) (by omega)
      have h2 := E.lam_lt q hk
      omega
    subst this
    rw [Nat.sub_self]; rfl
  | N + 1, a, i0, h, hi, A => by
    have hal : a < ls.length := by have := E.lam_le k; omega
    have e1 : wordF ls (N + 1) a = match wordAt ls a with | some e => some (a, e) | none => wordF ls N (a + 1) := rfl
    by_cases hq : i0 < n ∧ a = ρ i0
    · obtain ⟨h1, h2⟩ := hq
      have hik : i0 < k := E.of_lt h1 (by omega)
      have e2 : fstA W (k - i0) i0 = if W i0 = true then some i0 else fstA W (k - (i0 + 1)) (i0 + 1) := by
        rw [show k - i0 = (k - (i0 + 1)) + 1 by omega]; rfl
      have hw := E.w i0 h1
      rw [← h2] at hw
      rw [e1, e2]
      cases hx : wordAt ls a with
      | some e =>
        rw [hx] at hw
        have hw' : W i0 = true := hw.symm
        rw [if_pos hw', h2]; rfl
      | none =>
        rw [hx] at hw
        have hw' : W i0 = false := hw.symm
        rw [if_neg (by rw [hw']; exact Bool.false_ne_true)]
        exact word_emb E hk N (a + 1) (i0 + 1) (by omega) hik (A.here E h1 h2)
    · obtain ⟨A', hn⟩ := A.not E hq
      rw [e1, E.ow a hal hn]
      exact word_emb E hk N (a + 1) i0 (by omega) hi A'

theorem last_emb (E : Emb ls W K n ρ) {test : Nat → List Nat → Bool × List Nat} (ht : ∀ i m, i < n → test (stA ls (ρ i)) m = (B i, m ++ [i])) : ∀ (N a i0 pos : Nat) (m : List Nat), a + N = ls.length → i0 ≤ n → At0 n ρ a i0 →
    lastG ls test N a (ρ pos) m = (ρ (lastA W B (n - i0) i0 pos m).1, (lastA W B (n - i0) i0 pos m).2)
  | 0, a, i0, pos, m, h, hi, A => by
    have : i0 = n := by
      refine Nat.le_antisymm hi (Nat.not_lt.mp fun q => ?_)
      have h1 := A.hi i0 (Nat.le_refl _) q
      have h2 := E.lt i0 q
      omega
    subst this
    rw [Nat.sub_self]; rfl
  | N + 1, a, i0, pos, m, h, hi, A => by
    have e1 : lastG ls test (N + 1) a (ρ pos) m = match wordAt ls a with
      | none => lastG ls test N (a + 1) (ρ pos) m
      | some _ => lastG ls test N (a + 1) (if (test (stA ls a) m).1 = true then ρ pos else a) (test (stA ls a) m).2 := rfl
    by_cases hq : i0 < n ∧ a = ρ i0
    · obtain ⟨h1, h2⟩ := hq
      have e2 : ∀ pos m, lastA W B (n - i0) i0 pos m = if W i0 = true then lastA W B (n - (i0 + 1)) (i0 + 1) (if B i0 = true then pos else i0) (m ++ [i0]) else lastA W B (n - (i0 + 1)) (i0 + 1) pos m := by
        intro pos m
        rw [show n - i0 = (n - (i0 + 1)) + 1 by omega]; rfl
      have hw := E.w i0 h1
      rw [← h2] at hw
      rw [e1, e2]
      cases hx : wordAt ls a with
      | some e =>
        rw [hx] at hw
        have hw' : W i0 = true := hw.symm
        rw [if_pos hw']
        dsimp only
        have htt := ht i0 m h1
        rw [← h2] at htt
        rw [htt]
        dsimp only
        have : (if B i0 = true then ρ pos else a) = ρ (if B i0 = true then pos else i0) := by split; rfl; exact h2
        rw [this]
        exact last_emb E ht N (a + 1) (i0 + 1) _ _ (by omega) h1 (A.here E h1 h2)
      | none =>
        rw [hx] at hw
        have hw' : W i0 = false := hw.symm
        dsimp only
        rw [if_neg (by rw [hw']; exact Bool.false_ne_true)]
        exact last_emb E ht N (a + 1) (i0 + 1) _ _ (by omega) h1 (A.here E h1 h2)
    · obtain ⟨A', hn⟩ := A.not E hq
      rw [e1, E.ow a (by omega) hn]
      exact last_emb E ht N (a + 1) i0 pos m (by omega) hi A'
end
end Mine.Tx
end
noncomputable section
set_option Elab.async false
set_option linter.all false
set_option maxRecDepth 100000
namespace Mine.Tx
open PySem PySem.W PyProof.Rows Mine Mine.Re

section
variable {ls : List (List Nat)} {W K B : Nat → Bool} {n : Nat} {ρ : Nat → Nat}
theorem colA_none : ∀ {k : Nat}, colA K k = none → ∀ i, i < k → K i = false
  | 0, _, i, h => absurd h (Nat.not_lt_zero _)
  | k + 1, h, i, hi => by
    unfold colA at h
    split at h
    · cases h
    · rename_i hc
      by_cases q : i = k
      · subst q; simpa using hc
      · exact colA_none h i (by omega)
theorem colA_at : ∀ {k j : Nat}, colA K k = some j → K j = true ∧ ∀ i, j < i → i < k → K i = false
  | 0, _, h => by cases h
  | k + 1, j, h => by
    unfold colA at h
    split at h
    · rename_i hc; cases h; exact ⟨hc, fun i a b => by omega⟩
    · rename_i hc
      obtain ⟨h1, h2⟩ := colA_at h
      exact ⟨h1, fun i a b => by
        by_cases q : i = k
        · subst q; simpa using hc
        · exact h2 i a (by omega)⟩
theorem colB_is {k j : Nat} (h1 : j < k) (h2 : colonAt ls j = true) (h3 : ∀ r, j < r → r < k → colonAt ls r = false) : colB ls k = some j := by
  cases hc : colB ls k with
  | none => rw [colB_none hc j h1] at h2; cases h2
  | some i =>
    obtain ⟨a, b, c⟩ := colB_some hc
    rcases Nat.lt_trichotomy i j with q | q | q
    · rw [c j q h1] at h2; cases h2
    · rw [q]
    · rw [h3 i q a] at b; cases b
theorem colB_isnt {k : Nat} (h : ∀ r, r < k → colonAt ls r = false) : colB ls k = none := by
  cases hc : colB ls k with
  | none => rfl
  | some i => obtain ⟨a, b, _⟩ := colB_some hc; rw [h i a] at b; cases b

theorem col_emb (E : Emb ls W K n ρ) {k : Nat} (hk : k ≤ n) : colB ls (lam ls n ρ k) = (colA K k).map ρ := by
  have other : ∀ r, r < lam ls n ρ k → colonAt ls r = true → ∃ i, i < k ∧ r = ρ i ∧ K i = true := fun r hr hc => by
    by_cases h : ∃ i, i < n ∧ r = ρ i
    · obtain ⟨i, hi, rfl⟩ := h
      exact ⟨i, E.of_lt hi hr, rfl, by rw [← E.c i hi]; exact hc⟩
    · rw [E.oc r (Nat.lt_of_lt_of_le hr (E.lam_le k)) fun i hi q => h ⟨i, hi, q⟩] at hc; cases hc
  cases hc : colA K k with
  | none =>
    refine colB_isnt fun r hr => ?_
    cases hq : colonAt ls r with
    | false => rfl
    | true =>
      obtain ⟨i, a, _, b⟩ := other r hr hq
      rw [colA_none hc i a] at b; cases b
  | some j =>
    have hj := colA_some hc
    obtain ⟨c1, c2⟩ := colA_at hc
    refine colB_is (E.lam_lt hj hk) (by rw [E.c j (by omega)]; exact c1) fun r h1 h2 => ?_
    cases hq : colonAt ls r with
    | false => rfl
    | true =>
      obtain ⟨i, a, rfl, b⟩ := other r h2 hq
      have : j < i := by
        refine Nat.not_le.mp fun q => ?_
        have := E.mono q (show j < n by omega); omega
      rw [c2 i this a] at b; cases b

theorem At0.row (E : Emb ls W K n ρ) {j : Nat} (hj : j < n) : At0 n ρ (ρ j) j := ⟨fun i h1 _ => E.inc i j h1 hj, fun i h1 h2 => E.mono h1 h2⟩
theorem At0.zero : At0 n ρ 0 0 := ⟨fun i h _ => absurd h (Nat.not_lt_zero _), fun _ _ _ => Nat.zero_le _⟩

theorem try_emb (E : Emb ls W K n ρ) {test : Nat → List Nat → Bool × List Nat} (ht : ∀ i m, i < n → test (stA ls (ρ i)) m = (B i, m ++ [i])) : ∀ (t k : Nat) (m : List Nat), k ≤ n → tryG ls test t (lam ls n ρ k) m = ((tryA W K B t k m).1.map ρ, (tryA W K B t k m).2)
  | 0, _, _, _ => rfl
  | t + 1, k, m, hk => by
    unfold tryG tryA
    rw [col_emb E hk]
    cases hc : colA K k with
    | none => rfl
    | some j =>
      have hj := colA_some hc
      have hjn : j < n := by omega
      have lj : lam ls n ρ j = ρ j := if_pos hjn
      have hl := E.lam_lt hj hk
      have hw := word_emb E hk (lam ls n ρ k - ρ j) (ρ j) j (by omega) (Nat.le_of_lt hj) (At0.row E hjn)
      show (match wordF ls (lam ls n ρ k - ρ j) (ρ j) with
        | none => tryG ls test t (ρ j) m
        | some (r, _) => if (test (stA ls r) m).1 = true then tryG ls test t (ρ j) (test (stA ls r) m).2 else (some r, (test (stA ls r) m).2)) = _
      dsimp only
      cases hf : fstA W (k - j) j with
      | none =>
        rw [hf] at hw
        have hw' : wordF ls (lam ls n ρ k - ρ j) (ρ j) = none := by
          cases hx : wordF ls (lam ls n ρ k - ρ j) (ρ j) with
          | none => rfl
          | some y => rw [hx] at hw; cases hw
        rw [hw']
        have := try_emb E ht t j m (by omega)
        rw [lj] at this
        exact this
      | some r =>
        rw [hf] at hw
        obtain ⟨a1, a2, a3⟩ := fstA_some hf
        have hr : r < n := by omega
        cases hx : wordF ls (lam ls n ρ k - ρ j) (ρ j) with
        | none => rw [hx] at hw; cases hw
        | some y =>
          obtain ⟨r', e⟩ := y
          rw [hx] at hw
          have hw' : r' = ρ r := Option.some.inj hw
          subst hw'
          dsimp only
          rw [ht r m hr]
          dsimp only
          by_cases hb : B r = true
          · rw [if_pos hb, if_pos hb]
            have := try_emb E ht t j (m ++ [r]) (by omega)
            rw [lj] at this
            exact this
          · rw [if_neg hb, if_neg hb]; rfl

theorem find_emb (E : Emb ls W K n ρ) {test : Nat → List Nat → Bool × List Nat} (ht : ∀ i m, i < n → test (stA ls (ρ i)) m = (B i, m ++ [i])) : findG ls test [] = ((findA W K B n []).1.map ρ, (findA W K B n []).2) := by
  have ln : lam ls n ρ n = ls.length := if_neg (Nat.lt_irrefl _)
  have h5 := try_emb (B := B) E ht 5 n [] (Nat.le_refl _)
  rw [ln] at h5
  have hsp := tryA_spec (W := W) (K := K) (B := B) n 5 n [] (Nat.le_refl _) rfl (fun r h => by cases h)
  unfold findG findA
  rw [h5]
  cases hA : tryA W K B 5 n [] with
  | mk o m' =>
  rw [hA] at hsp
  cases o with
  | none =>
    show firstG ls test m' = _
    unfold firstG
    have hw := word_emb E (Nat.le_refl n) ls.length 0 0 (by rw [ln, Nat.zero_add]) (Nat.zero_le _) At0.zero
    rw [Nat.sub_zero] at hw
    dsimp only
    cases hf : fstA W n 0 with
    | none =>
      rw [hf] at hw
      cases hx : wordF ls ls.length 0 with
      | none => rfl
      | some y => rw [hx] at hw; cases hw
    | some r =>
      rw [hf] at hw
      obtain ⟨a1, a2, a3⟩ := fstA_some hf
      cases hx : wordF ls ls.length 0 with
      | none => rw [hx] at hw; cases hw
      | some y =>
        obtain ⟨r', e⟩ := y
        rw [hx] at hw
        have hw' : r' = ρ r := Option.some.inj hw
        subst hw'
        dsimp only
        rw [ht r m' (by omega)]
        dsimp only
        cases B r <;> rfl
  | some r =>
    have hr : r < n := by
      have h2 : (m'.filter fun r => !B r).getLast? = some r := hsp.2
      exact (hsp.1 r (List.mem_filter.mp (List.mem_of_getLast? h2)).1).1
    show (some (lastG ls test (ls.length - (ρ r + 1)) (ρ r + 1) (ρ r) m').1, (lastG ls test (ls.length - (ρ r + 1)) (ρ r + 1) (ρ r) m').2) = _
    have hl := E.lt r hr
    rw [last_emb (B := B) E ht (ls.length - (ρ r + 1)) (ρ r + 1) (r + 1) r m' (by omega) hr ((At0.row E hr).here E hr rfl)]
    rfl
end
end Mine.Tx
end
noncomputable section
set_option Elab.async false
set_option linter.all false
set_option maxRecDepth 100000
set_option maxHeartbeats 4000000
namespace Mine.L03
open PySem PySem.W PyProof.Rows Mine MineTop

noncomputable def sign_S : S := (.seq (.ite (.cmp .Eq (.bin .Mod (.var "number") (.int 55296)) (.int 10)) (.seq (.ret (.str " ")) .nil) .nil) (.seq (.ret (.call (.glob "chr") (.cons (.bin .Mod (.var "number") (.int 55296)) .nil))) .nil))
noncomputable def rich_S : S := (.seq (.asg "words" (.list (.cons (.str "while") (.cons (.str "else") (.cons (.str "def") (.cons (.str "return") (.cons (.str "assert") (.cons (.str "break") (.cons (.str "class") (.cons (.str "continue") (.cons (.str "elif") (.cons (.str "try") (.cons (.str "except") (.cons (.str "raise") (.cons (.str "\x69mport") (.cons (.str "yield") .nil)))))))))))))))) (.seq (.asg "others" (.list (.cons (.str "x") (.cons (.str "if") (.cons (.str "classy") (.cons (.str "else_") (.cons (.str "#") (.cons (.str "") (.cons (.str "1try") (.cons (.str "for") (.cons (.str "finally") (.cons (.str "with") (.cons (.str "Def") (.cons (.str "pass") (.cons (.str "from") (.cons (.str "async") (.cons (.str "\x0cdef") (.cons (.str "lambda") .nil)))))))))))))))))) (.seq (.asg "fill" (.bin .Add (.bin .Add (.bin .Add (.call (.glob "_law_sign") (.cons (.bin .Add (.bin .FloorDiv (.var "x") (.int 1344)) (.int 13)) .nil)) (.str "try:")) (.call (.glob "_law_sign") (.cons (.bin .Add (.bin .FloorDiv (.bin .FloorDiv (.var "x") (.int 1344)) (.int 55296)) (.int 11)) .nil))) (.str ")"))) (.seq (.asg "head" (.ite (.cmp .Eq (.bin .Mod (.var "x") (.int 2)) (.int 1)) (.idx (.var "words") (.bin .Mod (.bin .FloorDiv (.var "x") (.int 8)) (.int 14))) (.idx (.var "others") (.bin .Mod (.bin .FloorDiv (.var "x") (.int 8)) (.int 16))))) (.seq (.asg "ahead" (.idx (.list (.cons (.str "") (.cons (.bin .Add (.bin .Add (.str "#") (.var "fill")) (.str "\n")) (.cons (.str " \n") .nil)))) (.bin .Mod (.bin .FloorDiv (.var "x") (.int 448)) (.int 3)))) (.seq (.asg "blanks" (.idx (.list (.cons (.str "") (.cons (.str " ") (.cons (.str "\t") (.cons (.str " \t") .nil))))) (.bin .Mod (.bin .FloorDiv (.var "x") (.int 112)) (.int 4)))) (.seq (.asg "end" (.idx (.list (.cons (.str "\n") (.cons (.str ":\n") .nil))) (.bin .Mod (.bin .FloorDiv (.var "x") (.int 2)) (.int 2)))) (.seq (.ret (.list (.cons (.var "ahead") (.cons (.bin .Add (.bin .Add (.bin .Add (.bin .Add (.var "blanks") (.var "head")) (.str "(")) (.var "fill")) (.var "end")) .nil)))) .nil))))))))
noncomputable def test_S : S := (.seq (.expr (.meth (.var "asked") "append" (.cons (.meth (.bin .Add (.var "starts") (.list (.cons (.var "place") .nil))) "index" (.cons (.var "place") .nil)) .nil))) (.seq (.ret (.cmp .Eq (.idx (.var "bars") (.idx (.var "asked") (.neg (.int 1)))) (.int 1))) .nil))
noncomputable def run_S : S := (.seq (.ownC "asked" (.list .nil)) (.seq (.asg "parser" (.call (.glob "Parser") (.cons (.int 4) (.cons (.int 8) .nil)))) (.seq (.expr (.meth (.var "parser") "set_code" (.cons (.var "text") .nil))) (.seq (.asg "told" (.meth (.var "parser") "find_good_parse_start" (.cons (.lam ["place"] (.call (.glob "_law_test") (.cons (.cv "asked") (.cons (.cv "starts") (.cons (.cv "bars") (.cons (.var "place") .nil)))))) .nil))) (.seq (.ite (.cmp .Is (.var "told") .none) (.seq (.ret (.list (.cons (.cv "asked") (.cons .none .nil)))) .nil) .nil) (.seq (.ret (.list (.cons (.cv "asked") (.cons (.meth (.bin .Add (.cv "starts") (.list (.cons (.var "told") .nil))) "index" (.cons (.var "told") .nil)) .nil)))) .nil))))))
noncomputable def law_S : S := (.seq (.asg "numbers" (.bin .Add (.slc (.var "script") .none (.int 7)) (.list (.cons (.idx (.list (.cons (.int 7) (.cons (.int 1) (.cons (.int 5) (.cons (.int 2) .nil))))) (.bin .Mod (.call (.glob "len") (.cons (.var "script") .nil)) (.int 4))) .nil)))) (.seq (.asgC "bars" (.bin .Add (.comp (.bin .Mod (.bin .FloorDiv (.var "x") (.int 4)) (.int 2)) "x" (.var "numbers") (.bool true)) (.list (.cons (.int 1) .nil)))) (.seq (.asg "bare" (.str "")) (.seq (.asg "rich" (.str "")) (.seq (.own "bare_starts" (.list .nil)) (.seq (.own "rich_starts" (.list .nil)) (.seq (.each "x" (.var "numbers") (.seq (.expr (.meth (.var "bare_starts") "append" (.cons (.call (.glob "len") (.cons (.var "bare") .nil)) .nil))) (.seq (.aug "bare" .Add (.idx (.list (.cons (.str "x\n") (.cons (.str "def\n") (.cons (.str "x:\n") (.cons (.str "def:\n") .nil))))) (.bin .Mod (.var "x") (.int 4)))) (.seq (.asg2 "ahead" "row" (.call (.glob "_law_rich") (.cons (.var "x") .nil))) (.seq (.expr (.meth (.var "rich_starts") "append" (.cons (.bin .Add (.call (.glob "len") (.cons (.var "rich") .nil)) (.call (.glob "len") (.cons (.var "ahead") .nil))) .nil))) (.seq (.aug "rich" .Add (.bin .Add (.var "ahead") (.var "row"))) .nil)))))) (.seq (.asg2 "asked" "told" (.call (.glob "_law_run") (.cons (.var "bare") (.cons (.var "bare_starts") (.cons (.cv "bars") .nil))))) (.seq (.ite (.cmp .NotEq (.call (.glob "_law_run") (.cons (.var "rich") (.cons (.var "rich_starts") (.cons (.cv "bars") .nil)))) (.list (.cons (.var "asked") (.cons (.var "told") .nil)))) (.seq (.ret (.bool false)) .nil) .nil) (.seq (.asg "free" (.bin .Add (.list (.cons .none .nil)) (.comp (.var "row") "row" (.var "asked") (.cmp .Eq (.idx (.cv "bars") (.var "row")) (.int 0))))) (.seq (.ret (.and (.cmp .Eq (.var "told") (.idx (.var "free") (.neg (.int 1)))) (.cmp .Eq (.cmp .Eq (.var "asked") (.list .nil)) (.cmp .Eq (.comp (.var "x") "x" (.var "numbers") (.cmp .Eq (.bin .Mod (.var "x") (.int 2)) (.int 1))) (.list .nil))))) .nil)))))))))))

noncomputable abbrev init_S := Tx.init_S
noncomputable abbrev setcode_S := Tx.setcode_S
noncomputable abbrev find_S := Tx.find_S
noncomputable def fnSc (l : List (Str × NameKind)) : Scope := { kind := .function, names := l, isGenerator := false, isCoroutine := false }
noncomputable def scSign : Scope := fnSc [("number", .local), ("chr", .globalImplicit)]
noncomputable def scRich : Scope := fnSc [("x", .local), ("words", .local), ("others", .local), ("fill", .local), ("head", .local), ("ahead", .local), ("blanks", .local), ("end", .local), ("_law_sign", .globalImplicit)]
noncomputable def scTest : Scope := fnSc [("asked", .local), ("starts", .local), ("bars", .local), ("place", .local)]
noncomputable def scRun : Scope := fnSc [("text", .local), ("starts", .cell), ("bars", .cell), ("parser", .local), ("told", .local), ("asked", .cell), ("Parser", .globalImplicit)]
theorem row58 (p : Params) : FnRow (hd.heap_39 p) 58 Tx.scI ["self", "indentwidth", "tabwidth"] Tx.init_S :=
  ⟨_, _, rfl, rfl, rfl, rfl, rfl, rfl, rfl, by decide +kernel, by repeat' first | exact rfl | decide +kernel | exact (fun _ _ _ => rfl) | constructor, fun cargs h => by obtain ⟨a, b, c, rfl⟩ := len3 h; rfl⟩
theorem row65 (p : Params) : FnRow (hd.heap_39 p) 65 Tx.scS ["self", "s"] Tx.setcode_S :=
  ⟨_, _, rfl, rfl, rfl, rfl, rfl, rfl, rfl, by decide +kernel, by repeat' first | exact rfl | decide +kernel | exact (fun _ _ _ => rfl) | constructor, fun cargs h => by obtain ⟨a, b, rfl⟩ := len2 h; rfl⟩
theorem row72 (p : Params) : FnRow (hd.heap_39 p) 72 Tx.scFind ["self", "is_char_in_string"] Tx.find_S :=
  ⟨_, _, rfl, rfl, rfl, rfl, rfl, rfl, rfl, by decide +kernel, by repeat' first | exact rfl | decide +kernel | exact (fun _ _ _ => rfl) | constructor, fun cargs h => by obtain ⟨a, b, rfl⟩ := len2 h; rfl⟩
theorem row163 (p : Params) : FnRow (hd.heap_39 p) 163 scSign ["number"] sign_S :=
  ⟨_, _, rfl, rfl, rfl, rfl, rfl, rfl, rfl, by decide +kernel, by repeat' first | exact rfl | decide +kernel | exact (fun _ _ _ => rfl) | constructor, fun cargs h => by obtain ⟨a, rfl⟩ := len1 h; rfl⟩
theorem row170 (p : Params) : FnRow (hd.heap_39 p) 170 scRich ["x"] rich_S :=
  ⟨_, _, rfl, rfl, rfl, rfl, rfl, rfl, rfl, by decide +kernel, by repeat' first | exact rfl | decide +kernel | exact (fun _ _ _ => rfl) | constructor, fun cargs h => by obtain ⟨a, rfl⟩ := len1 h; rfl⟩
theorem len4 {α : Type} {l : List α} (h : l.length = 4) : ∃ a b c d, l = [a, b, c, d] := by
  cases l with
  | nil => cases h
  | cons a r => obtain ⟨b, c, d, rfl⟩ := len3 (Nat.succ.inj h); exact ⟨a, b, c, d, rfl⟩
theorem row177 (p : Params) : FnRow (hd.heap_39 p) 177 scTest ["asked", "starts", "bars", "place"] test_S :=
  ⟨_, _, rfl, rfl, rfl, rfl, rfl, rfl, rfl, by decide +kernel, by repeat' first | exact rfl | decide +kernel | exact (fun _ _ _ => rfl) | constructor, fun cargs h => by obtain ⟨a, b, c, d, rfl⟩ := len4 h; rfl⟩
theorem row184 (p : Params) : FnRow (hd.heap_39 p) 184 scRun ["text", "starts", "bars"] run_S :=
  ⟨_, _, rfl, rfl, rfl, rfl, rfl, rfl, rfl, by decide +kernel, by repeat' first | exact rfl | decide +kernel | exact one_place | exact (fun _ _ _ => rfl) | constructor, fun cargs h => by obtain ⟨a, b, c, rfl⟩ := len3 h; rfl⟩
end Mine.L03
end
noncomputable section
set_option Elab.async false
set_option linter.all false
set_option maxRecDepth 100000
set_option maxHeartbeats 4000000
namespace Mine.L03
open PySem PySem.W PyProof.Rows Mine MineTop Mine.Re

noncomputable def gl3 (x : Str) : Option V :=
  if x = ("len" : Str) then some (.top (.builtin "len"))
  else if x = ("chr" : Str) then some (.top (.builtin "chr"))
  else if x = ("range" : Str) then some (.top (.type "range"))
  else if x = ("_synchre" : Str) then some (.top (.ref 44))
  else if x = ("_law_sign" : Str) then some (.top (.ref 163))
  else if x = ("_law_rich" : Str) then some (.top (.ref 170))
  else if x = ("_law_test" : Str) then some (.top (.ref 177))
  else if x = ("_law_run" : Str) then some (.top (.ref 184))
  else if x = ("Parser" : Str) then some (.top (.ref 152))
  else none
noncomputable def lq : Str := "_law_run.<locals>.<lambda>"
noncomputable def G3 (p : Params) : Prg := { K := hd.heap_39 p, C := 152, meths := [("set_code", 65), ("find_good_parse_start", 72)], flds := ["code", "study_level", "indentwidth", "tabwidth"], gl := gl3, srch := 44, tb := some (184, lq) }
noncomputable def rows3 : Rows := [(58, Tx.scI, ["self", "indentwidth", "tabwidth"], Tx.init_S), (65, Tx.scS, ["self", "s"], Tx.setcode_S), (72, Tx.scFind, ["self", "is_char_in_string"], Tx.find_S), (163, scSign, ["number"], sign_S), (170, scRich, ["x"], rich_S), (177, scTest, ["asked", "starts", "bars", "place"], test_S), (184, scRun, ["text", "starts", "bars"], run_S)]

section
variable {P : Par} {pv : Program} {loose : List Str} {mg mb : Str → Option Value} {K : Frag}

theorem glB (X : K.In P.B) (T : TopRead pv loose mg mb P.B) {x : Str} {v : Value} (e : nsIn K mainGlobals x = some none) (hv : bootBuiltins x = some v) (hn : x ≠ "__name__") :
    ∃ c mg mb, P.B.Ns mainGlobals mg ∧ P.B.Ns builtinsNs mb ∧ (mg x = some c ∨ (mg x = none ∧ mb x = some c)) ∧ c = v :=
  ⟨v, mg, mb, T.g, T.b, .inr ⟨mg_none_of X T.g e, (T.builtins x hn).trans hv⟩, rfl⟩
theorem glK (X : K.In P.B) (T : TopRead pv loose mg mb P.B) {x : Str} {v : Value} (e : nsIn K mainGlobals x = some (some v)) :
    ∃ c mg mb, P.B.Ns mainGlobals mg ∧ P.B.Ns builtinsNs mb ∧ (mg x = some c ∨ (mg x = none ∧ mb x = some c)) ∧ c = v :=
  ⟨v, mg, mb, T.g, T.b, .inl (mg_of X T.g e), rfl⟩
theorem gl_top {x : Str} {v : Value} (h : ∃ c mg mb, P.B.Ns mainGlobals mg ∧ P.B.Ns builtinsNs mb ∧ (mg x = some c ∨ (mg x = none ∧ mb x = some c)) ∧ c = v) :
    ∃ c mg mb, P.B.Ns mainGlobals mg ∧ P.B.Ns builtinsNs mb ∧ (mg x = some c ∨ (mg x = none ∧ mb x = some c)) ∧ ∀ W n, VR W n (.top v) c := by
  obtain ⟨c, mg, mb, a, b, d, rfl⟩ := h
  exact ⟨c, mg, mb, a, b, d, fun _ _ => .top _⟩

theorem cls3 (p : Params) (X : (hd.heap_39 p).In P.B) : ClsOk P (hd.heap_39 p) 152 :=
  ⟨X, by rfl, by rfl, by rfl, by rfl, by rfl, by rfl⟩

theorem pat3 (p : Params) (X : (hd.heap_39 p).In P.B) : ∃ pt, P.B.get? 44 = some (boundObj "re.Pattern.search" pt) ∧ PatAt P.B pt code1 :=
  ⟨43, X 44 _ (by rfl), ⟨_, _, 42, X 43 _ (by rfl), by rfl, by rfl, by rfl, by rfl, by rfl, _, _, _, X 42 _ (by rfl), by rfl, by decide +kernel⟩⟩

theorem prg3 (p : Params) (X : (hd.heap_39 p).In P.B) (T : TopRead pv loose mg mb P.B) (hl : LamOk P) : PrgOk P (G3 p) := by
  refine ⟨cls3 p X, hl, pat3 p X, fun m g h => ?_, fun f h => ?_, fun x v h => ?_⟩
  · have h' : ([(("set_code" : Str), (65 : Addr)), ("find_good_parse_start", 72)] : List (Str × Addr)).lookup m = some g := h
    simp only [List.lookup] at h'
    split at h'
    · rename_i hm
      have : m = ("set_code" : Str) := by simpa using hm
      subst this; cases h'
      exact ⟨by rfl, by rfl⟩
    · split at h'
      · rename_i hm
        have : m = ("find_good_parse_start" : Str) := by simpa using hm
        subst this; cases h'
        exact ⟨by rfl, by rfl⟩
      · cases h'
  · have h' : f ∈ (["code", "study_level", "indentwidth", "tabwidth"] : List Str) := by
      have : (["code", "study_level", "indentwidth", "tabwidth"] : List Str).contains f = true := h
      simpa using this
    simp only [List.mem_cons, List.not_mem_nil, or_false] at h'
    rcases h' with rfl | rfl | rfl | rfl <;> rfl
  · have h' : gl3 x = some v := h
    unfold gl3 at h'
    split at h'
    · rename_i hx; subst hx; cases h'; exact gl_top (glB X T (by rfl) (by rfl) (by decide))
    split at h'
    · rename_i hx; subst hx; cases h'; exact gl_top (glB X T (by rfl) (by rfl) (by decide))
    split at h'
    · rename_i hx; subst hx; cases h'; exact gl_top (glB X T (by rfl) (by rfl) (by decide))
    split at h'
    · rename_i hx; subst hx; cases h'; exact gl_top (glK X T (by rfl))
    split at h'
    · rename_i hx; subst hx; cases h'; exact gl_top (glK X T (by rfl))
    split at h'
    · rename_i hx; subst hx; cases h'; exact gl_top (glK X T (by rfl))
    split at h'
    · rename_i hx; subst hx; cases h'; exact gl_top (glK X T (by rfl))
    split at h'
    · rename_i hx; subst hx; cases h'; exact gl_top (glK X T (by rfl))
    split at h'
    · rename_i hx; subst hx; cases h'; exact gl_top (glK X T (by rfl))
    · cases h'

theorem rows3_ok (p : Params) : ∀ a sc ps b, rows3.lookup a = some (sc, ps, b) → FnRow (G3 p).K a sc ps b := by
  intro a sc ps b h
  unfold rows3 at h
  simp only [List.lookup] at h
  split at h
  · rename_i ha; have : a = 58 := by simpa using ha
    subst this; cases h; exact row58 p
  split at h
  · rename_i ha; have : a = 65 := by simpa using ha
    subst this; cases h; exact row65 p
  split at h
  · rename_i ha; have : a = 72 := by simpa using ha
    subst this; cases h; exact row72 p
  split at h
  · rename_i ha; have : a = 163 := by simpa using ha
    subst this; cases h; exact row163 p
  split at h
  · rename_i ha; have : a = 170 := by simpa using ha
    subst this; cases h; exact row170 p
  split at h
  · rename_i ha; have : a = 177 := by simpa using ha
    subst this; cases h; exact row177 p
  split at h
  · rename_i ha; have : a = 184 := by simpa using ha
    subst this; cases h; exact row184 p
  · cases h

theorem tab3 (p : Params) (X : (hd.heap_39 p).In P.B) (hC : CodeHd P.B 183 P.T) : TabOk P (G3 p) := by
  intro f q fd h1 h2
  cases h1
  have h3 : fnAt (hd.heap_39 p) 184 = some fd := h2
  cases h3
  exact ⟨rfl, 183, rfl, hC⟩
theorem tower3 (p : Params) (X : (hd.heap_39 p).In P.B) (T : TopRead pv loose mg mb P.B) (hl : LamOk P) (hC : CodeHd P.B 183 P.T) (n : Nat) : SxOk P (tower (G3 p) rows3 58 n) :=
  tower_ok (prg3 p X T hl) (tab3 p X hC) T.nolimit (rows3_ok p) (by rfl) (by rfl) n
end
end Mine.L03
end
noncomputable section
set_option Elab.async false
set_option linter.all false
set_option maxRecDepth 100000
set_option maxHeartbeats 8000000
namespace Mine.L03
open PySem PySem.W PyProof.Rows Mine MineTop Mine.Re

noncomputable def scLaw : Scope := fnSc [("script", .local), ("numbers", .local), ("x", .local), ("bars", .cell), ("bare", .local), ("rich", .local), ("bare_starts", .local), ("rich_starts", .local), ("ahead", .local), ("row", .local), ("asked", .local), ("told", .local), ("free", .local), ("len", .globalImplicit), ("_law_rich", .globalImplicit), ("_law_run", .globalImplicit)]
noncomputable def start3 (ns : List Int) : St := lawSt scLaw lq [("script", .list (ns.map .int))]
noncomputable def Plain3 : Prop := ∀ p, ∀ ns : List Int, ns.length ≤ 63 → ∃ σ', ex law_S (tower (G3 p) rows3 58 6) (start3 ns) = .ok (.ret (.bool true)) σ' ∧ σ'.obj 0 = some (.tab lq)

theorem ints_VRs {W : Wd} {n : Nat} : ∀ {vs : List Value} {ns : List Int}, IntsAre vs ns → VRs W n (ns.map .int) vs
  | _, _, .nil => .nil
  | _, _, .cons _ _ r => .cons (.int _ _) (ints_VRs r)

theorem ints_length : ∀ {vs : List Value} {ns : List Int}, IntsAre vs ns → vs.length = ns.length
  | _, _, .nil => rfl
  | _, _, .cons _ _ r => by simp [ints_length r]

theorem ofPy_list (l : List PyData) : ∃ xs, ofPy (PyData.list l) = .list xs := by
  first | exact ⟨_, rfl⟩ | (unfold ofPy; exact ⟨_, rfl⟩)
theorem joined (plain : Plain3) : PySem.Challenge.rw_dm0167_03.Holds := hd (by
  k_go0
  rename_i w s₀ s₁ mg mb G Y fa o pm cd doc ho hcd hg X V T B TE TW ns hs hlay0 hL0 hr0 hl2 u5 u4 a vs u1 hL ra hW1 r0 hI hr hcond1 hcond2 hD h₁ tk₁ w0 hc0 X0 X' T' K' F' N' l0
  obtain ⟨lo, hlo, hlc, ln, hld⟩ := lifted
  have hlen : ns.length ≤ 63 := by omega
  obtain ⟨σ', hex, htab⟩ := plain w.params ns hlen
  have hvl := ints_length hI
  have hdict : lo.dict = none := by
    have h2 := of_hideAll _ hlo
    obtain ⟨xs, e⟩ := ofPy_list (ns.map PyData.int)
    rw [e] at hW1
    cases hW1 with
    | list e _ => rw [e] at h2; cases h2; rfl
  have hlam : LamOk ⟨PySem.Challenge.rw_dm0167_03.row.prog, w, ghostOf s₁.heap [(183, 179)], s₁.os, 179⟩ := by
    obtain ⟨bm, ob, b1, b2, b3, b4, b5, b6⟩ := T'.bmain
    exact ⟨mg, bm, ob, T'.g, b1, b2, b3, b4, b5, b6⟩
  have SX := fun n => tower3 (P := ⟨PySem.Challenge.rw_dm0167_03.row.prog, w, ghostOf s₁.heap [(183, 179)], s₁.os, 179⟩) w.params X' (topRead_of T') hlam codeHd n
  refine law_run (P := ⟨PySem.Challenge.rw_dm0167_03.row.prog, w, ghostOf s₁.heap [(183, 179)], s₁.os, 179⟩) (ps := ["script"]) (args := [.list (ns.map .int)]) (cargs := [.ref a]) (T := 179) (L := s₁.heap.objs.size) (q := lq) (fz := fun b => if b = a then some lo else none) (cx := tower (G3 w.params) rows3 58 6) (b := law_S) (v := .bool true) (σ' := σ')
    (by rfl) rfl rfl rfl rfl rfl rfl (hideAll_size _ _) l0 F'.ns F'.keep (fun x c hm => ?_) (fun b ob hb => ?_) (.cons (.list (if_pos rfl) hlc hld ?_ (ints_VRs hI) hdict) .nil) hg rfl
    (hideAll_none _ (.head _)) (N' _ (.tail _ (.head _))).1 rfl (SX 6) (by rw [tower_lvl]; decide) (by repeat' first | exact rfl | decide +kernel | exact (fun _ _ _ => rfl) | constructor) hex htab (fun W c s' ps' hv hk ht ho hg => ?_)
  · have hm' : (x, c) ∈ [(("bars" : Str), s₁.heap.objs.size + 1)] := hm
    simp only [List.mem_cons, List.not_mem_nil, or_false] at hm'
    cases hm'; exact ⟨w0, (N' _ (.head _)).1, hc0⟩
  · have hb' : (if b = a then some lo else none) = some ob := hb
    split at hb'
    · rename_i e; subst e; cases hb'; exact hlo
    · cases hb'
  · rw [List.size_toArray, sizeLine_eq]; omega
  · cases hv
    refine ⟨⟨.inl ⟨_, _, _, rfl, fun cls => ?_, .bool true, ?_, fun _ => ⟨List.nodup_nil, fun a ha => by cases ha⟩⟩, hk, ho, hg⟩, ⟨ps', ht⟩, trivial⟩
    · rfl
    · first | rfl | kernel_rfl | w_fin)
end Mine.L03
end
noncomputable section
set_option Elab.async false
set_option linter.all false
set_option maxRecDepth 100000
set_option maxHeartbeats 4000000
namespace Mine.L03
open PySem PySem.W PyProof.Rows Mine Mine.Re Mine.Tx

theorem fmod_lt (y : Int) {n : Int} (h : 0 < n) : 0 ≤ y.fmod n ∧ y.fmod n < n := ⟨Int.fmod_nonneg_of_pos _ h, Int.fmod_lt_of_pos _ h⟩
theorem idx_mod {H : Hp} {L : List PySem.Str} {y n : Int} (hn : (L.length : Int) = n) (h0 : 0 < n) (h1 : n ≤ 100) : idxV H (.list (L.map .str)) (.int (y.fmod n)) = .ok (.str (L.getD (y.fmod n).toNat "")) := by
  obtain ⟨a, b⟩ := fmod_lt y h0
  have hl : (y.fmod n).toNat < L.length := by omega
  rw [← Int.toNat_of_nonneg a]
  generalize (y.fmod n).toNat = i at hl
  have hq : seqIndex? (i : Int) (L.map V.str).length = some i := ix_nat (by rw [List.length_map]; exact hl)
  have hf : fitsIx (i : Int) = true := fits_nat (by rw [sizeLine_eq]; omega)
  rw [Int.toNat_natCast, List.getD_eq_getElem?_getD, List.getElem?_eq_getElem hl]
  exact idx_list rfl rfl hf hq (by rw [List.getElem?_map, List.getElem?_eq_getElem hl]; rfl)
theorem div_ok {H : Hp} {x n : Int} (h0 : 0 < n) (h1 : n < 1000000) : binV H .FloorDiv (.int x) (.int n) = .ok (.int (x.fdiv n)) := by
  show (if n = 0 ∨ Builtin.divisionGoesByPylong x n = true then Ov.bad else .ok (.int (x.fdiv n))) = _
  rw [if_neg]
  rintro (h | h)
  · omega
  · rw [PyProof.noPylong_small (by omega)] at h; cases h
theorem mod_ok {H : Hp} {x n : Int} (h0 : 0 < n) : binV H .Mod (.int x) (.int n) = .ok (.int (x.fmod n)) := by
  show (if n = 0 then Ov.bad else .ok (.int (x.fmod n))) = _
  rw [if_neg (Int.ne_of_gt h0)]
theorem cat_ok {H : Hp} {x y : PySem.Str} (h : x.length + y.length ≤ sizeLine) : binV H .Add (.str x) (.str y) = .ok (.str (x ++ y)) := by
  show (if x.length + y.length ≤ sizeLine then Ov.ok (.str (x ++ y)) else .bad) = _
  rw [if_pos h]
theorem fits_ok {n : Nat} {r : Rs V} (h : n ≤ 100) : fits n r = r := by unfold fits; rw [if_pos (by rw [sizeLine_eq]; omega)]
theorem str_len_append (x y : PySem.Str) : (x ++ y).length = x.length + y.length := by
  show (x.cps ++ y.cps).size = _
  rw [Array.size_append]; rfl

/-! ## _law_sign -/
noncomputable def signN (x : Int) : Nat := if x.fmod 55296 = 10 then 32 else (x.fmod 55296).toNat
noncomputable def signStr (x : Int) : PySem.Str := ⟨#[signN x]⟩
theorem signN_ok (x : Int) : signN x ≠ 10 ∧ signN x < 55296 := by
  unfold signN
  have := fmod_lt x (n := 55296) (by decide)
  split <;> omega
theorem sign_run {cx : Sx} (hc : cx.gl "chr" = some (.top (.builtin "chr"))) (hb : ∀ i args H, cx.app (.top (.builtin i)) args H = bapp i args H) {H : Hp} {x : Int} : ∃ σ', ex sign_S cx { toHp := H, loc := [("number", .int x)], cel := [] } = .ok (.ret (.str (signStr x))) σ' ∧ σ'.toHp = H := by
  have m := @mod_ok H x 55296 (by decide)
  have hl : List.lookup ("number" : PySem.Str) [(("number" : PySem.Str), V.int x)] = some (.int x) := rfl
  have hr := fmod_lt x (n := 55296) (by decide)
  refine ⟨{ toHp := H, loc := [("number", .int x)], cel := [] }, ?_, rfl⟩
  by_cases h : x.fmod 55296 = 10
  · have hs : signStr x = " " := by
      unfold signStr signN
      rw [if_pos h]; decide
    have hq : (x.fmod 55296 == 10) = true := by rw [h]; rfl
    simp only [sign_S, exq_brk, exq_expr, exq_asg, exq_asgC, exq_own, exq_ownC, exq_setA, exq_aug, exq_ret, exq_ite, exq_loop, exq_each, exq_assert, exq_nil, exq_seq, exq_asg2, evq_none, evq_bool, evq_int, evq_str, evq_var, evq_cv, evq_glob, evq_bin, evq_neg, evq_not, evq_cmp, evq_and, evq_or, evq_ite, evq_idx, evq_slc, evq_attr, evq_list, evq_tup, evq_nil, evq_cons, evq_call, evq_meth, evq_comp, evq_lam, evq_named, hl, Rs.bind, m, Ov.st, cEqI, hq, condS, truV, goOn, hs]
  · have hq : (x.fmod 55296 == 10) = false := beq_eq_false_iff_ne.mpr h
    have hs : signStr x = ⟨#[(x.fmod 55296).toNat]⟩ := by unfold signStr signN; rw [if_neg h]
    have e : bapp "chr" [.int (x.fmod 55296)] H = okH (.str ⟨#[(x.fmod 55296).toNat]⟩) H := by
      unfold bapp
      rw [if_neg (by decide), if_neg (by decide), if_neg (by decide), if_pos rfl]
      exact if_pos hr
    simp only [sign_S, exq_brk, exq_expr, exq_asg, exq_asgC, exq_own, exq_ownC, exq_setA, exq_aug, exq_ret, exq_ite, exq_loop, exq_each, exq_assert, exq_nil, exq_seq, exq_asg2, evq_none, evq_bool, evq_int, evq_str, evq_var, evq_cv, evq_glob, evq_bin, evq_neg, evq_not, evq_cmp, evq_and, evq_or, evq_ite, evq_idx, evq_slc, evq_attr, evq_list, evq_tup, evq_nil, evq_cons, evq_call, evq_meth, evq_comp, evq_lam, evq_named, hl, Rs.bind, m, Ov.st, cEqI, hq, condS, truV, goOn, hc, argR, hb, e, okH, Rs.lift, hs]
end Mine.L03
end
noncomputable section
set_option Elab.async false
set_option linter.all false
set_option maxRecDepth 100000
set_option maxHeartbeats 4000000
namespace Mine.L03
open PySem PySem.W PyProof.Rows Mine Mine.Re Mine.Tx

section
variable {p : Params}
theorem pg3 : Pg (G3 p) rows3 58 65 72 := ⟨by show (152 : Nat) ≠ 44; decide, rfl, rfl, rfl, ⟨by show (65 : Nat) ≠ 152; decide, by show (65 : Nat) ≠ 44; decide⟩, ⟨by show (72 : Nat) ≠ 152; decide, by show (72 : Nat) ≠ 44; decide⟩, rfl, rfl, rfl, rfl, rfl, rfl, rfl, rfl, rfl⟩
theorem entrySign (H : Hp) (v : V) : entry scSign ((["number"] : List PySem.Str).zip [v]) H = { toHp := H, loc := [("number", v)], cel := [] } := by
  simp [entry, scSign, fnSc, cellsH, List.lookup]
theorem sign_call (n : Nat) (σ : St) (x : Int) : ((tower (G3 p) rows3 58 (n + 2)).app (.top (.ref 163)) [.int x] σ.toHp).lift σ = .ok (.str (signStr x)) σ := by
  rw [tower_r n 163 (by show (163 : Nat) ≠ 152; decide) (by show (163 : Nat) ≠ 44; decide)]
  have hrow : rows3.lookup 163 = some (scSign, (["number"] : List PySem.Str), sign_S) := by rfl
  unfold rowRun
  rw [hrow]
  dsimp only
  rw [runFn_eq rfl, show tbFor (G3 p).tb 163 = none from rfl, entryT_none, entrySign]
  obtain ⟨σ', e, h⟩ := @sign_run (tower (G3 p) rows3 58 (n + 1)) (by rw [tower_gl]; rfl) (fun i args H => tower_b _ i args H) σ.toHp x
  rw [e]
  show Rs.ok (V.str (signStr x)) { σ with toHp := σ'.toHp } = _
  rw [h]
end

/-! ## _law_rich -/
noncomputable def wordsL : List PySem.Str := ["while", "else", "def", "return", "assert", "break", "class", "continue", "elif", "try", "except", "raise", "\x69mport", "yield"]
noncomputable def othersL : List PySem.Str := ["x", "if", "classy", "else_", "#", "", "1try", "for", "finally", "with", "Def", "pass", "from", "async", "\x0cdef", "lambda"]
noncomputable def wB (x : Int) : Bool := x.fmod 2 == 1
noncomputable def cB (x : Int) : Bool := (x.fdiv 2).fmod 2 == 1
noncomputable def bB (x : Int) : Bool := (x.fdiv 4).fmod 2 == 1
noncomputable def fillStr (x : Int) : PySem.Str := signStr (x.fdiv 1344 + 13) ++ "try:" ++ signStr ((x.fdiv 1344).fdiv 55296 + 11) ++ ")"
noncomputable def headStr (x : Int) : PySem.Str := if wB x = true then wordsL.getD ((x.fdiv 8).fmod 14).toNat "" else othersL.getD ((x.fdiv 8).fmod 16).toNat ""
noncomputable def aheadL (x : Int) : List PySem.Str := ["", "#" ++ fillStr x ++ "\n", " \n"]
noncomputable def aheadStr (x : Int) : PySem.Str := (aheadL x).getD ((x.fdiv 448).fmod 3).toNat ""
noncomputable def blanksL : List PySem.Str := ["", " ", "\t", " \t"]
noncomputable def blanksStr (x : Int) : PySem.Str := blanksL.getD ((x.fdiv 112).fmod 4).toNat ""
noncomputable def endL : List PySem.Str := ["\n", ":\n"]
noncomputable def endStr (x : Int) : PySem.Str := endL.getD ((x.fdiv 2).fmod 2).toNat ""
noncomputable def rowStr (x : Int) : PySem.Str := blanksStr x ++ headStr x ++ "(" ++ fillStr x ++ endStr x

theorem getD_len (L : List PySem.Str) (n i : Nat) (h : L.all (fun s => decide (s.length ≤ n)) = true) : (L.getD i "").length ≤ n := by
  by_cases hi : i < L.length
  · rw [List.getD_eq_getElem?_getD, List.getElem?_eq_getElem hi]
    have := List.all_eq_true.mp h _ (List.getElem_mem hi)
    simpa using this
  · rw [List.getD_eq_getElem?_getD, List.getElem?_eq_none (by omega)]; exact Nat.zero_le _
theorem fill_len (x : Int) : (fillStr x).length = 7 := by
  unfold fillStr
  rw [str_len_append, str_len_append, str_len_append]
  rfl
theorem head_len (x : Int) : (headStr x).length ≤ 8 := by
  unfold headStr
  split
  · exact getD_len _ _ _ (by decide +kernel)
  · exact getD_len _ _ _ (by decide +kernel)
end Mine.L03
end
noncomputable section
set_option Elab.async false
set_option linter.all false
set_option maxRecDepth 100000
set_option maxHeartbeats 4000000
namespace Mine.L03
open PySem PySem.W PyProof.Rows Mine Mine.Re Mine.Tx

theorem gd_ev {cx : Sx} {σ : St} {x : PySem.Str} {e : X} {v : V} {r : S} {f : Fl} {σ' : St} (he : ev cx.toCx e σ = .ok v σ) (h : ex r cx (σ.set x v) = .ok f σ') : ex (.seq (.asg x e) r) cx σ = .ok f σ' := by
  have h1 : ex (.asg x e) cx σ = .ok .next (σ.set x v) := (Rs.bind_ok he : _)
  exact (Rs.bind_ok h1 : _).trans h

section
variable {p : Params} {n : Nat}
theorem rich_run {H : Hp} {x : Int} : ∃ σ', ex rich_S (tower (G3 p) rows3 58 (n + 2)) { toHp := H, loc := [("x", .int x)], cel := [] } = .ok (.ret (.list [.str (aheadStr x), .str (rowStr x)])) σ' ∧ σ'.toHp = H := by
  have hz : sizeLine = 16777216 := by decide
  have hfl := fill_len x
  have hhl := head_len x
  have hbl : (blanksStr x).length ≤ 8 := getD_len _ _ _ (by decide +kernel)
  have hel : (endStr x).length ≤ 8 := getD_len _ _ _ (by decide +kernel)
  let cx := tower (G3 p) rows3 58 (n + 2)
  have hgs : cx.gl "_law_sign" = some (.top (.ref 163)) := by show (tower (G3 p) rows3 58 (n + 2)).gl _ = _; rw [tower_gl]; rfl
  let σ0 : St := { toHp := H, loc := [("x", .int x)], cel := [] }
  let σ1 := σ0.set "words" (.list (wordsL.map .str))
  let σ2 := σ1.set "others" (.list (othersL.map .str))
  let σ3 := σ2.set "fill" (.str (fillStr x))
  let σ4 := σ3.set "head" (.str (headStr x))
  let σ5 := σ4.set "ahead" (.str (aheadStr x))
  let σ6 := σ5.set "blanks" (.str (blanksStr x))
  let σ7 := σ6.set "end" (.str (endStr x))
  have x0 : σ0.loc.lookup ("x" : PySem.Str) = some (.int x) := rfl
  have x2 : σ2.loc.lookup ("x" : PySem.Str) = some (.int x) := look_ne (by decide) (look_ne (by decide) x0)
  have x3 : σ3.loc.lookup ("x" : PySem.Str) = some (.int x) := look_ne (by decide) x2
  have x4 : σ4.loc.lookup ("x" : PySem.Str) = some (.int x) := look_ne (by decide) x3
  have x5 : σ5.loc.lookup ("x" : PySem.Str) = some (.int x) := look_ne (by decide) x4
  have x6 : σ6.loc.lookup ("x" : PySem.Str) = some (.int x) := look_ne (by decide) x5
  have w3 : σ3.loc.lookup ("words" : PySem.Str) = some (.list (wordsL.map .str)) := look_ne (by decide) (look_ne (by decide) look_eq)
  have o3 : σ3.loc.lookup ("others" : PySem.Str) = some (.list (othersL.map .str)) := look_ne (by decide) look_eq
  have f4 : σ4.loc.lookup ("fill" : PySem.Str) = some (.str (fillStr x)) := look_ne (by decide) look_eq
  have f7 : σ7.loc.lookup ("fill" : PySem.Str) = some (.str (fillStr x)) := look_ne (by decide) (look_ne (by decide) (look_ne (by decide) f4))
  have h7 : σ7.loc.lookup ("head" : PySem.Str) = some (.str (headStr x)) := look_ne (by decide) (look_ne (by decide) (look_ne (by decide) look_eq))
  have a7 : σ7.loc.lookup ("ahead" : PySem.Str) = some (.str (aheadStr x)) := look_ne (by decide) (look_ne (by decide) look_eq)
  have b7 : σ7.loc.lookup ("blanks" : PySem.Str) = some (.str (blanksStr x)) := look_ne (by decide) look_eq
  have n7 : σ7.loc.lookup ("end" : PySem.Str) = some (.str (endStr x)) := look_eq
  refine ⟨σ7, ?_, rfl⟩
  have key : ex rich_S cx σ0 = .ok (.ret (.list [.str (aheadStr x), .str (rowStr x)])) σ7 := by
    unfold rich_S
    refine gd_ev (v := .list (wordsL.map .str)) (by simp only [evq_none, evq_bool, evq_int, evq_str, evq_var, evq_cv, evq_glob, evq_bin, evq_neg, evq_not, evq_cmp, evq_and, evq_or, evq_ite, evq_idx, evq_slc, evq_attr, evq_list, evq_tup, evq_nil, evq_cons, evq_call, evq_meth, evq_comp, evq_lam, evq_named, Rs.bind, argR]; rw [fits_ok (by decide)]; rfl) ?_
    refine gd_ev (v := .list (othersL.map .str)) (by simp only [evq_none, evq_bool, evq_int, evq_str, evq_var, evq_cv, evq_glob, evq_bin, evq_neg, evq_not, evq_cmp, evq_and, evq_or, evq_ite, evq_idx, evq_slc, evq_attr, evq_list, evq_tup, evq_nil, evq_cons, evq_call, evq_meth, evq_comp, evq_lam, evq_named, Rs.bind, argR]; rw [fits_ok (by decide)]; rfl) ?_
    refine gd_ev (σ := σ2) (v := .str (fillStr x)) ?_ ?_
    · have d1 := @div_ok σ2.toHp x 1344 (by decide) (by decide)
      have d2 := @div_ok σ2.toHp (x.fdiv 1344) 55296 (by decide) (by decide)
      have s1 := sign_call (p := p) n σ2 (x.fdiv 1344 + 13)
      have s2 := sign_call (p := p) n σ2 ((x.fdiv 1344).fdiv 55296 + 11)
      have l1 : (signStr (x.fdiv 1344 + 13)).length = 1 := rfl
      have l2 : (signStr ((x.fdiv 1344).fdiv 55296 + 11)).length = 1 := rfl
      have c1 := @cat_ok σ2.toHp (signStr (x.fdiv 1344 + 13)) "try:" (by rw [l1]; decide)
      have c2 := @cat_ok σ2.toHp (signStr (x.fdiv 1344 + 13) ++ "try:") (signStr ((x.fdiv 1344).fdiv 55296 + 11)) (by rw [str_len_append, l1, l2]; decide)
      have c3 := @cat_ok σ2.toHp (signStr (x.fdiv 1344 + 13) ++ "try:" ++ signStr ((x.fdiv 1344).fdiv 55296 + 11)) ")" (by rw [str_len_append, str_len_append, l1, l2]; decide)
      have s1' : (cx.app (.top (.ref 163)) [.int (x.fdiv 1344 + 13)] σ2.toHp).lift σ2 = .ok (.str (signStr (x.fdiv 1344 + 13))) σ2 := s1
      have s2' : (cx.app (.top (.ref 163)) [.int ((x.fdiv 1344).fdiv 55296 + 11)] σ2.toHp).lift σ2 = .ok (.str (signStr ((x.fdiv 1344).fdiv 55296 + 11))) σ2 := s2
      simp only [evq_none, evq_bool, evq_int, evq_str, evq_var, evq_cv, evq_glob, evq_bin, evq_neg, evq_not, evq_cmp, evq_and, evq_or, evq_ite, evq_idx, evq_slc, evq_attr, evq_list, evq_tup, evq_nil, evq_cons, evq_call, evq_meth, evq_comp, evq_lam, evq_named, hgs, x2, Rs.bind, argR, d1, d2, Ov.st, bAddI, s1', s2', c1, c2, c3]
      rfl
    refine gd_ev (σ := σ3) (v := .str (headStr x)) ?_ ?_
    · have d8 := @div_ok σ3.toHp x 8 (by decide) (by decide)
      have m2 := @mod_ok σ3.toHp x 2 (by decide)
      have m14 := @mod_ok σ3.toHp (x.fdiv 8) 14 (by decide)
      have m16 := @mod_ok σ3.toHp (x.fdiv 8) 16 (by decide)
      have i1 := @idx_mod σ3.toHp wordsL (x.fdiv 8) 14 (by decide) (by decide) (by decide)
      have i2 := @idx_mod σ3.toHp othersL (x.fdiv 8) 16 (by decide) (by decide) (by decide)
      simp only [evq_none, evq_bool, evq_int, evq_str, evq_var, evq_cv, evq_glob, evq_bin, evq_neg, evq_not, evq_cmp, evq_and, evq_or, evq_ite, evq_idx, evq_slc, evq_attr, evq_list, evq_tup, evq_nil, evq_cons, evq_call, evq_meth, evq_comp, evq_lam, evq_named, x3, Rs.bind, m2, cEqI, Ov.st, condR, truV]
      cases hw : (x.fmod 2 == 1) with
      | true =>
        simp only [w3, x3, d8, m14, i1]
        show Rs.ok _ _ = Rs.ok (V.str (if wB x = true then _ else _)) _
        rw [if_pos (show wB x = true from hw)]
      | false =>
        simp only [o3, x3, d8, m16, i2]
        show Rs.ok _ _ = Rs.ok (V.str (if wB x = true then _ else _)) _
        rw [if_neg (by rw [show wB x = false from hw]; decide)]
    refine gd_ev (σ := σ4) (v := .str (aheadStr x)) ?_ ?_
    · have d := @div_ok σ4.toHp x 448 (by decide) (by decide)
      have m := @mod_ok σ4.toHp (x.fdiv 448) 3 (by decide)
      have i := @idx_mod σ4.toHp (aheadL x) (x.fdiv 448) 3 rfl (by decide) (by decide)
      have q : (aheadL x).map V.str = [.str "", .str ("#" ++ fillStr x ++ "\n"), .str " \n"] := rfl
      rw [q] at i
      have c1 := @cat_ok σ4.toHp "#" (fillStr x) (by rw [hfl]; decide)
      have c2 := @cat_ok σ4.toHp ("#" ++ fillStr x) "\n" (by rw [str_len_append, hfl]; decide)
      simp only [evq_none, evq_bool, evq_int, evq_str, evq_var, evq_cv, evq_glob, evq_bin, evq_neg, evq_not, evq_cmp, evq_and, evq_or, evq_ite, evq_idx, evq_slc, evq_attr, evq_list, evq_tup, evq_nil, evq_cons, evq_call, evq_meth, evq_comp, evq_lam, evq_named, x4, f4, Rs.bind, argR, c1, c2, Ov.st, fits_ok (show ([.str "", .str ("#" ++ fillStr x ++ "\n"), .str " \n"] : List V).length ≤ 100 by exact (by decide : 3 ≤ 100)), d, m, i]
      rfl
    refine gd_ev (σ := σ5) (v := .str (blanksStr x)) ?_ ?_
    · have d := @div_ok σ5.toHp x 112 (by decide) (by decide)
      have m := @mod_ok σ5.toHp (x.fdiv 112) 4 (by decide)
      have i := @idx_mod σ5.toHp blanksL (x.fdiv 112) 4 rfl (by decide) (by decide)
      have q : blanksL.map V.str = [.str "", .str " ", .str "\t", .str " \t"] := rfl
      rw [q] at i
      simp only [evq_none, evq_bool, evq_int, evq_str, evq_var, evq_cv, evq_glob, evq_bin, evq_neg, evq_not, evq_cmp, evq_and, evq_or, evq_ite, evq_idx, evq_slc, evq_attr, evq_list, evq_tup, evq_nil, evq_cons, evq_call, evq_meth, evq_comp, evq_lam, evq_named, x5, Rs.bind, argR, Ov.st, fits_ok (show ([.str "", .str " ", .str "\t", .str " \t"] : List V).length ≤ 100 by decide), d, m, i]
      rfl
    refine gd_ev (σ := σ6) (v := .str (endStr x)) ?_ ?_
    · have d := @div_ok σ6.toHp x 2 (by decide) (by decide)
      have m := @mod_ok σ6.toHp (x.fdiv 2) 2 (by decide)
      have i := @idx_mod σ6.toHp endL (x.fdiv 2) 2 rfl (by decide) (by decide)
      have q : endL.map V.str = [.str "\n", .str ":\n"] := rfl
      rw [q] at i
      simp only [evq_none, evq_bool, evq_int, evq_str, evq_var, evq_cv, evq_glob, evq_bin, evq_neg, evq_not, evq_cmp, evq_and, evq_or, evq_ite, evq_idx, evq_slc, evq_attr, evq_list, evq_tup, evq_nil, evq_cons, evq_call, evq_meth, evq_comp, evq_lam, evq_named, x6, Rs.bind, argR, Ov.st, fits_ok (show ([.str "\n", .str ":\n"] : List V).length ≤ 100 by decide), d, m, i]
      rfl
    have c1 := @cat_ok σ7.toHp (blanksStr x) (headStr x) (by omega)
    have p1 : ("(" : PySem.Str).length = 1 := by decide
    have c2 := @cat_ok σ7.toHp (blanksStr x ++ headStr x) "(" (by rw [str_len_append]; omega)
    have c3 := @cat_ok σ7.toHp (blanksStr x ++ headStr x ++ "(") (fillStr x) (by rw [str_len_append, str_len_append]; omega)
    have c4 := @cat_ok σ7.toHp (blanksStr x ++ headStr x ++ "(" ++ fillStr x) (endStr x) (by rw [str_len_append, str_len_append, str_len_append]; omega)
    show ex (.seq (.ret _) .nil) cx σ7 = _
    simp only [exq_brk, exq_expr, exq_asg, exq_asgC, exq_own, exq_ownC, exq_setA, exq_aug, exq_ret, exq_ite, exq_loop, exq_each, exq_assert, exq_nil, exq_seq, exq_asg2, evq_none, evq_bool, evq_int, evq_str, evq_var, evq_cv, evq_glob, evq_bin, evq_neg, evq_not, evq_cmp, evq_and, evq_or, evq_ite, evq_idx, evq_slc, evq_attr, evq_list, evq_tup, evq_nil, evq_cons, evq_call, evq_meth, evq_comp, evq_lam, evq_named, a7, b7, h7, f7, n7, Rs.bind, argR, c1, c2, c3, c4, Ov.st]
    rw [fits_ok (by show 2 ≤ 100; decide)]
    rfl
  exact key
end
end Mine.L03
end
noncomputable section
set_option Elab.async false
set_option linter.all false
set_option maxRecDepth 100000
set_option maxHeartbeats 4000000
namespace Mine.L03
open PySem PySem.W PyProof.Rows Mine Mine.Re Mine.Tx

section
variable {p : Params}
theorem entryRich (H : Hp) (v : V) : entry scRich ((["x"] : List PySem.Str).zip [v]) H = { toHp := H, loc := [("x", v)], cel := [] } := by
  simp [entry, scRich, fnSc, cellsH, List.lookup]
theorem rich_call (n : Nat) (σ : St) (x : Int) : ((tower (G3 p) rows3 58 (n + 3)).app (.top (.ref 170)) [.int x] σ.toHp).lift σ = .ok (.list [.str (aheadStr x), .str (rowStr x)]) σ := by
  rw [tower_r (n + 1) 170 (by show (170 : Nat) ≠ 152; decide) (by show (170 : Nat) ≠ 44; decide)]
  have hrow : rows3.lookup 170 = some (scRich, (["x"] : List PySem.Str), rich_S) := by rfl
  unfold rowRun
  rw [hrow]
  dsimp only
  rw [runFn_eq rfl, show tbFor (G3 p).tb 170 = none from rfl, entryT_none, entryRich]
  obtain ⟨σ', e, h⟩ := @rich_run p n σ.toHp x
  rw [e]
  show Rs.ok (V.list [.str (aheadStr x), .str (rowStr x)]) { σ with toHp := σ'.toHp } = _
  rw [h]
end

/-! ## the bare rows -/
noncomputable def bareS : List PySem.Str := ["x\n", "def\n", "x:\n", "def:\n"]
noncomputable def bareStr (x : Int) : PySem.Str := bareS.getD (x.fmod 4).toNat ""
noncomputable def bareLs : List (List Nat) := [[120], [100, 101, 102], [120, 58], [100, 101, 102, 58]]
noncomputable def bareL (x : Int) : List Nat := bareLs.getD (x.fmod 4).toNat []
theorem four (x : Int) : x.fmod 4 = 2 * ((x.fdiv 2).fmod 2) + x.fmod 2 := by
  rw [Int.fmod_eq_emod_of_nonneg _ (by decide), Int.fmod_eq_emod_of_nonneg _ (by decide), Int.fmod_eq_emod_of_nonneg _ (by decide), Int.fdiv_eq_ediv_of_nonneg _ (by decide)]
  omega
structure LineOk (l : List Nat) (w c : Bool) : Prop where
  nl : 10 ∉ l
  word : (lineW words1 l 10).isSome = w
  colon : (l.getLast? == some 58) = c
theorem bare_ok (x : Int) : LineOk (bareL x) (wB x) (cB x) ∧ (bareStr x).cps.toList = bareL x ++ [10] := by
  have h4 := four x
  have h1 := fmod_lt x (n := 2) (by decide)
  have h2 := fmod_lt (x.fdiv 2) (n := 2) (by decide)
  unfold bareL bareStr wB cB
  rcases (show x.fmod 2 = 0 ∨ x.fmod 2 = 1 by omega) with a | a <;> rcases (show (x.fdiv 2).fmod 2 = 0 ∨ (x.fdiv 2).fmod 2 = 1 by omega) with b | b <;> rw [h4, a, b] <;>
    exact ⟨⟨by decide, by decide +kernel, by decide⟩, by decide⟩
end Mine.L03
end
noncomputable section
set_option Elab.async false
set_option linter.all false
set_option maxRecDepth 100000
set_option maxHeartbeats 4000000
namespace Mine.L03
open PySem PySem.W PyProof.Rows Mine Mine.Re Mine.Tx

/-- what stands behind a sign that is in no word changes nothing -/
theorem lineW_cut {l r : List Nat} {t : Nat} (ht : isBlank t = false) (hw : ∀ w ∈ words1, t ∉ w) : lineW words1 (l ++ t :: r) 10 = lineW words1 l t := by
  have w1 := win_self (l ++ t :: r) 10
  have w2 : Win ((l ++ t :: r) ++ [10]).toArray ((l ++ t :: r).length + 1) 0 l t := by
    refine ⟨fun i hi => ?_, by simp⟩
    rw [Nat.zero_add, Array.getD_eq_getD_getElem?, List.getElem?_toArray, List.getD_eq_getElem?_getD]
    rw [show (l ++ t :: r) ++ [10] = (l ++ [t]) ++ (r ++ [10]) by simp]
    rw [List.getElem?_append_left (by simp; omega)]
  have h1 := head_win w1 (by decide) (fun w hw => (words1_ok w hw).1)
  have h2 := head_win w2 ht (fun w hq => ⟨hw w hq, (words1_ok w hq).1.2⟩)
  rw [h1] at h2
  have e : ∀ o : Option Nat, o.map (0 + ·) = o := fun o => by cases o <;> simp
  rw [e, e] at h2
  exact h2
theorem words1_40 : ∀ w ∈ words1, 40 ∉ w := fun w hw => (words1_ok w hw).2.2.1
theorem words1_35 : ∀ w ∈ words1, 35 ∉ w := fun w hw => (words1_ok w hw).2.2.2

noncomputable def fillL (x : Int) : List Nat := [signN (x.fdiv 1344 + 13), 116, 114, 121, 58, signN ((x.fdiv 1344).fdiv 55296 + 11), 41]
theorem fill_cps (x : Int) : (fillStr x).cps.toList = fillL x := rfl
theorem fill_nl (x : Int) : 10 ∉ fillL x := by
  have h1 := (signN_ok (x.fdiv 1344 + 13)).1
  have h2 := (signN_ok ((x.fdiv 1344).fdiv 55296 + 11)).1
  unfold fillL
  intro h
  simp only [List.mem_cons, List.not_mem_nil, or_false] at h
  omega
noncomputable def headCk (b h : PySem.Str) (w : Bool) : Bool := !(b.cps.toList ++ h.cps.toList).contains 10 && ((lineW words1 (b.cps.toList ++ h.cps.toList) 40).isSome == w)
theorem heads_ck : (blanksL.all fun b => (wordsL.all fun h => headCk b h true) && (othersL.all fun h => headCk b h false)) = true := by decide +kernel
end Mine.L03
end
noncomputable section
set_option Elab.async false
set_option linter.all false
set_option maxRecDepth 100000
set_option maxHeartbeats 4000000
namespace Mine.L03
open PySem PySem.W PyProof.Rows Mine Mine.Re Mine.Tx

theorem getD_mem {α : Type} (L : List α) (i : Nat) (d : α) (h : i < L.length) : L.getD i d ∈ L := by
  rw [List.getD_eq_getElem?_getD, List.getElem?_eq_getElem h]; exact List.getElem_mem h
theorem head_ck (x : Int) : headCk (blanksStr x) (headStr x) (wB x) = true := by
  have h := heads_ck
  have h1 := fmod_lt (x.fdiv 112) (n := 4) (by decide)
  have h2 := fmod_lt (x.fdiv 8) (n := 14) (by decide)
  have h3 := fmod_lt (x.fdiv 8) (n := 16) (by decide)
  have hb := List.all_eq_true.mp h (blanksStr x) (getD_mem _ _ _ (by show _ < 4; omega))
  rw [Bool.and_eq_true] at hb
  unfold headStr
  cases hw : wB x with
  | true => rw [if_pos rfl]; exact List.all_eq_true.mp hb.1 _ (getD_mem _ _ _ (by show _ < 14; omega))
  | false => rw [if_neg (by decide)]; exact List.all_eq_true.mp hb.2 _ (getD_mem _ _ _ (by show _ < 16; omega))
noncomputable def rowL (x : Int) : List Nat := (blanksStr x).cps.toList ++ (headStr x).cps.toList ++ 40 :: (fillL x ++ if cB x = true then [58] else [])
theorem row_ok (x : Int) : LineOk (rowL x) (wB x) (cB x) ∧ (rowStr x).cps.toList = rowL x ++ [10] := by
  have h := head_ck x
  unfold headCk at h
  rw [Bool.and_eq_true, Bool.not_eq_true', beq_iff_eq] at h
  obtain ⟨h1, h2⟩ := h
  have h1' : 10 ∉ (blanksStr x).cps.toList ++ (headStr x).cps.toList := by simpa using h1
  have hf := fill_nl x
  have hr := fmod_lt (x.fdiv 2) (n := 2) (by decide)
  refine ⟨⟨?_, ?_, ?_⟩, ?_⟩
  · unfold rowL
    intro q
    rcases List.mem_append.mp q with q | q
    · exact h1' q
    · rcases List.mem_cons.mp q with q | q
      · cases q
      · rcases List.mem_append.mp q with q | q
        · exact hf q
        · split at q
          · rw [List.mem_singleton] at q; cases q
          · cases q
  · unfold rowL
    rw [lineW_cut (by decide) words1_40]; exact h2
  · unfold rowL
    cases hc : cB x with
    | true => rw [if_pos rfl]; simp [fillL]
    | false => rw [if_neg (by decide)]; simp [fillL]
  · show ((blanksStr x).cps ++ (headStr x).cps ++ ("(" : PySem.Str).cps ++ (fillStr x).cps ++ (endStr x).cps).toList = _
    have hp : ("(" : PySem.Str) = ⟨#[40]⟩ := by decide
    have he : (endStr x).cps.toList = (if cB x = true then [58] else []) ++ [10] := by
      unfold endStr cB
      rcases (show (x.fdiv 2).fmod 2 = 0 ∨ (x.fdiv 2).fmod 2 = 1 by omega) with a | a <;> rw [a] <;> decide
    rw [hp]
    simp only [Array.toList_append, fill_cps, he, rowL]
    simp
end Mine.L03
end
noncomputable section
set_option Elab.async false
set_option linter.all false
set_option maxRecDepth 100000
set_option maxHeartbeats 4000000
namespace Mine.L03
open PySem PySem.W PyProof.Rows Mine Mine.Re Mine.Tx

noncomputable def aheadLs (x : Int) : List (List Nat) := if (x.fdiv 448).fmod 3 = 1 then [35 :: fillL x] else if (x.fdiv 448).fmod 3 = 2 then [[32]] else []
theorem ahead_ok (x : Int) : (∀ l ∈ aheadLs x, LineOk l false false) ∧ (aheadStr x).cps.toList = flat (aheadLs x) := by
  have hr := fmod_lt (x.fdiv 448) (n := 3) (by decide)
  have hf := fill_nl x
  have key : LineOk (35 :: fillL x) false false := by
    refine ⟨fun q => ?_, ?_, ?_⟩
    · rcases List.mem_cons.mp q with q | q
      · cases q
      · exact hf q
    · have := lineW_cut (l := []) (r := fillL x) (t := 35) (by decide) words1_35
      rw [List.nil_append] at this
      rw [this]; decide +kernel
    · simp [fillL]
  have k2 : LineOk [32] false false := ⟨by decide, by decide +kernel, by decide⟩
  unfold aheadLs aheadStr aheadL
  rcases (show (x.fdiv 448).fmod 3 = 0 ∨ (x.fdiv 448).fmod 3 = 1 ∨ (x.fdiv 448).fmod 3 = 2 by omega) with a | a | a <;> rw [a]
  · exact ⟨(fun l hl => by cases hl), rfl⟩
  · refine ⟨fun l hl => ?_, ?_⟩
    · rw [List.mem_singleton.mp hl]; exact key
    · show (("#" : PySem.Str).cps ++ (fillStr x).cps ++ ("\n" : PySem.Str).cps).toList = _
      rw [nl_str, show ("#" : PySem.Str) = ⟨#[35]⟩ by decide]
      simp only [Array.toList_append, fill_cps]
      rfl
  · refine ⟨fun l hl => ?_, rfl⟩
    have : l = [32] := List.mem_singleton.mp hl
    rw [this]; exact k2
end Mine.L03
end
noncomputable section
set_option Elab.async false
set_option linter.all false
set_option maxRecDepth 100000
set_option maxHeartbeats 4000000
namespace Mine.L03
open PySem PySem.W PyProof.Rows Mine Mine.Re Mine.Tx

noncomputable def richLs : List Int → List (List Nat)
  | [] => []
  | x :: r => aheadLs x ++ rowL x :: richLs r
noncomputable def rho : List Int → Nat → Nat
  | [], _ => 0
  | x :: _, 0 => (aheadLs x).length
  | x :: r, i + 1 => (aheadLs x).length + 1 + rho r i
theorem rich_len : ∀ {xs : List Int} {i : Nat}, i < xs.length → rho xs i < (richLs xs).length ∧ (richLs xs)[rho xs i]? = some (rowL (xs.getD i 0))
  | [], _, h => by cases h
  | x :: r, 0, _ => by
    show (aheadLs x).length < (aheadLs x ++ rowL x :: richLs r).length ∧ (aheadLs x ++ rowL x :: richLs r)[(aheadLs x).length]? = _
    exact ⟨by simp, by rw [List.getElem?_append_right (Nat.le_refl _), Nat.sub_self]; rfl⟩
  | x :: r, i + 1, h => by
    obtain ⟨h1, h2⟩ := rich_len (xs := r) (i := i) (Nat.lt_of_succ_lt_succ h)
    show (aheadLs x).length + 1 + rho r i < (aheadLs x ++ rowL x :: richLs r).length ∧ (aheadLs x ++ rowL x :: richLs r)[(aheadLs x).length + 1 + rho r i]? = _
    refine ⟨by simp; omega, ?_⟩
    rw [List.getElem?_append_right (by omega), show (aheadLs x).length + 1 + rho r i - (aheadLs x).length = rho r i + 1 by omega, List.getElem?_cons_succ, h2]
    rfl
theorem rho_inc : ∀ {xs : List Int} {i j : Nat}, i < j → j < xs.length → rho xs i < rho xs j
  | [], _, _, _, h => by cases h
  | x :: r, i, 0, h, _ => absurd h (Nat.not_lt_zero _)
  | x :: r, 0, j + 1, _, _ => by show (aheadLs x).length < (aheadLs x).length + 1 + rho r j; omega
  | x :: r, i + 1, j + 1, h, hj => by
    have := rho_inc (xs := r) (Nat.lt_of_succ_lt_succ h) (Nat.lt_of_succ_lt_succ hj)
    show (aheadLs x).length + 1 + rho r i < (aheadLs x).length + 1 + rho r j
    omega
/-- a line that is no row's is an ahead line -/
theorem rich_other : ∀ {xs : List Int} {l : Nat}, l < (richLs xs).length → (∀ i, i < xs.length → l ≠ rho xs i) → ∃ q, (richLs xs)[l]? = some q ∧ LineOk q false false
  | [], _, h, _ => by cases h
  | x :: r, l, h, hn => by
    have e : richLs (x :: r) = aheadLs x ++ rowL x :: richLs r := rfl
    rw [e] at h ⊢
    rcases Nat.lt_trichotomy l (aheadLs x).length with q | q | q
    · rw [List.getElem?_append_left q, List.getElem?_eq_getElem q]
      exact ⟨_, rfl, (ahead_ok x).1 _ (List.getElem_mem q)⟩
    · exact absurd q (hn 0 (Nat.succ_pos _))
    · obtain ⟨k, rfl⟩ : ∃ k, l = (aheadLs x).length + 1 + k := ⟨l - ((aheadLs x).length + 1), by omega⟩
      rw [List.getElem?_append_right (by omega), show (aheadLs x).length + 1 + k - (aheadLs x).length = k + 1 by omega, List.getElem?_cons_succ]
      refine rich_other (xs := r) (by simp at h; omega) fun i hi q' => hn (i + 1) (Nat.succ_lt_succ hi) ?_
      show (aheadLs x).length + 1 + k = (aheadLs x).length + 1 + rho r i
      rw [q']
end Mine.L03
end
noncomputable section
set_option Elab.async false
set_option linter.all false
set_option maxRecDepth 100000
set_option maxHeartbeats 4000000
namespace Mine.L03
open PySem PySem.W PyProof.Rows Mine Mine.Re Mine.Tx

noncomputable def bareLs' (xs : List Int) : List (List Nat) := xs.map bareL
noncomputable def Wf (xs : List Int) (i : Nat) : Bool := wB (xs.getD i 0)
noncomputable def Kf (xs : List Int) (i : Nat) : Bool := cB (xs.getD i 0)
noncomputable def Bf (xs : List Int) (i : Nat) : Bool := bB (xs.getD i 0)
theorem word_of {ls : List (List Nat)} {k : Nat} {l : List Nat} {w c : Bool} (h : ls[k]? = some l) (hl : LineOk l w c) : (Tx.wordAt ls k).isSome = w ∧ colonAt ls k = c := by
  refine ⟨?_, ?_⟩
  · unfold Tx.wordAt; rw [h]; exact hl.word
  · unfold colonAt; rw [h]; exact hl.colon
theorem bare_at {xs : List Int} {i : Nat} (hi : i < xs.length) : (bareLs' xs)[i]? = some (bareL (xs.getD i 0)) := by
  simp [bareLs', List.getD_eq_getElem?_getD, List.getElem?_eq_getElem hi]
theorem bare_emb (xs : List Int) : Emb (bareLs' xs) (Wf xs) (Kf xs) xs.length id := by
  have hl : (bareLs' xs).length = xs.length := by simp [bareLs']
  refine ⟨fun i hi => by rw [hl]; exact hi, fun i j h _ => h, fun i hi => (word_of (bare_at hi) (bare_ok _).1).1, fun i hi => (word_of (bare_at hi) (bare_ok _).1).2, fun l h1 h2 => ?_, fun l h1 h2 => ?_⟩
  · exact absurd rfl (h2 l (hl ▸ h1))
  · exact absurd rfl (h2 l (hl ▸ h1))
theorem rich_emb (xs : List Int) : Emb (richLs xs) (Wf xs) (Kf xs) xs.length (rho xs) := by
  refine ⟨fun i hi => (rich_len hi).1, fun i j h hj => rho_inc h hj, fun i hi => (word_of (rich_len hi).2 (row_ok _).1).1, fun i hi => (word_of (rich_len hi).2 (row_ok _).1).2, fun l h1 h2 => ?_, fun l h1 h2 => ?_⟩
  · obtain ⟨q, e, ok⟩ := rich_other h1 h2
    exact Option.not_isSome_iff_eq_none.mp (by rw [(word_of e ok).1]; decide)
  · obtain ⟨q, e, ok⟩ := rich_other h1 h2
    exact (word_of e ok).2
end Mine.L03
end
noncomputable section
set_option Elab.async false
set_option linter.all false
set_option maxRecDepth 100000
set_option maxHeartbeats 4000000
namespace Mine.L03
open PySem PySem.W PyProof.Rows Mine Mine.Re Mine.Tx

noncomputable def nums (ns : List Int) : List Int := ns.take 7 ++ [([7, 1, 5, 2] : List Int).getD ((ns.length : Int).fmod 4).toNat 0]
noncomputable def num_X : X := (.bin .Add (.slc (.var "script") .none (.int 7)) (.list (.cons (.idx (.list (.cons (.int 7) (.cons (.int 1) (.cons (.int 5) (.cons (.int 2) .nil))))) (.bin .Mod (.call (.glob "len") (.cons (.var "script") .nil)) (.int 4))) .nil)))
theorem num_ev {p : Params} {ns : List Int} (hl : ns.length ≤ 63) {σ : St} (h : σ.loc.lookup ("script" : PySem.Str) = some (.list (ns.map .int))) : ev (tower (G3 p) rows3 58 6).toCx num_X σ = .ok (.list ((nums ns).map .int)) σ := by
  have B := bs_tower (pg3 (p := p)) 6
  have e1 : slcV σ.toHp (.list (ns.map .int)) .none (.int 7) = .ok (.list ((ns.take 7).map .int)) := by
    show Ov.ok (.list (cut (ns.map V.int) none (some 7))) = _
    rw [List.map_take]
    exact congrArg (fun l => Ov.ok (V.list l)) (cut_take (ns.map V.int) 7)
  have e2 : bapp "len" [.list (ns.map .int)] σ.toHp = okH (.int ns.length) σ.toHp := by
    unfold bapp; rw [if_pos rfl]
    exact (Mine.len_list (v := .list (ns.map V.int)) rfl rfl).trans (by rw [List.length_map])
  have m4 := @mod_ok σ.toHp (ns.length : Int) 4 (by decide)
  have hm := fmod_lt (ns.length : Int) (n := 4) (by decide)
  have e3 : idxV σ.toHp (.list [.int 7, .int 1, .int 5, .int 2]) (.int ((ns.length : Int).fmod 4)) = .ok (.int (([7, 1, 5, 2] : List Int).getD ((ns.length : Int).fmod 4).toNat 0)) := by
    rcases (show (ns.length : Int).fmod 4 = 0 ∨ (ns.length : Int).fmod 4 = 1 ∨ (ns.length : Int).fmod 4 = 2 ∨ (ns.length : Int).fmod 4 = 3 by omega) with q | q | q | q <;> rw [q] <;> rfl
  have e4 : binV σ.toHp .Add (.list ((ns.take 7).map .int)) (.list [.int (([7, 1, 5, 2] : List Int).getD ((ns.length : Int).fmod 4).toNat 0)]) = .ok (.list ((nums ns).map .int)) := by
    rw [bAddL (by rw [sizeLine_eq]; simp; omega)]
    simp [nums]
  simp only [num_X, evq_none, evq_bool, evq_int, evq_str, evq_var, evq_cv, evq_glob, evq_bin, evq_neg, evq_not, evq_cmp, evq_and, evq_or, evq_ite, evq_idx, evq_slc, evq_attr, evq_list, evq_tup, evq_nil, evq_cons, evq_call, evq_meth, evq_comp, evq_lam, evq_named, h, Rs.bind, e1, Ov.st, argR, B.len, B.b, e2, okH, Rs.lift, m4, fits_ok (show ([.int 7, .int 1, .int 5, .int 2] : List V).length ≤ 100 by decide), e3]
  rw [fits_ok (by show 1 ≤ 100; decide)]
  simp only [e4]
theorem nums_len {ns : List Int} : (nums ns).length ≤ 8 ∧ 0 < (nums ns).length := by
  unfold nums; simp; omega
end Mine.L03
end
noncomputable section
set_option Elab.async false
set_option linter.all false
set_option maxRecDepth 100000
set_option maxHeartbeats 4000000
namespace Mine.L03
open PySem PySem.W PyProof.Rows Mine Mine.Re Mine.Tx

theorem turns_calm {v : V} {all : List V} {f : V → St → Rs (Option V)} {g : V → Option V} {H : Hp} (hi : itsV H v = some all) : ∀ {l : List V} {σ : St}, σ.toHp = H → (∀ y ∈ l, ∀ σ : St, σ.toHp = H → ∃ σ', f y σ = .ok (g y) σ' ∧ σ'.toHp = H) → ∃ σ', turns v all f l σ = .ok (l.filterMap g) σ' ∧ σ'.toHp = H
  | [], σ, hσ, _ => ⟨σ, by unfold turns; rw [if_pos (by rw [hσ]; exact hi)]; rfl, hσ⟩
  | y :: r, σ, hσ, h => by
    obtain ⟨σ1, e1, h1⟩ := h y (.head _) σ hσ
    obtain ⟨σ2, e2, h2⟩ := turns_calm hi (l := r) h1 fun z hz => h z (.tail _ hz)
    refine ⟨σ2, ?_, h2⟩
    unfold turns
    rw [if_pos (by rw [hσ]; exact hi), e1]
    show (turns v all f r σ1).bind _ = _
    rw [e2]
    show Rs.ok _ _ = _
    rw [List.filterMap_cons]
    cases g y <;> rfl
theorem ev_comp_pure {cx : Cx} {σ : St} {elt it cond : X} {x : PySem.Str} {vi : V} {xs : List V} (g : V → Option V) (hi : ev cx it σ = .ok vi σ) (hx : itsV σ.toHp vi = some xs)
    (hg : ∀ y ∈ xs, (ev cx cond ⟨σ.toHp, [(x, y)], σ.cel, none⟩).bind (fun b σ₃ => condO b σ₃ (ev cx elt)) = .ok (g y) ⟨σ.toHp, [(x, y)], σ.cel, none⟩) (hn : (xs.filterMap g).length ≤ sizeLine) :
    ev cx (.comp elt x it cond) σ = .ok (.list (xs.filterMap g)) σ := by
  obtain ⟨σ2, e2, h2⟩ := turns_calm (f := fun v σ₂ => (ev cx cond { σ₂ with loc := [(x, v)], cel := σ.cel, tbl := none }).bind fun b σ₃ => condO b σ₃ (ev cx elt)) (g := g) hx (l := xs) (σ := σ) rfl (fun y hy σ' h' => ⟨⟨σ.toHp, [(x, y)], σ.cel, none⟩, by
    have : ({ σ' with loc := [(x, y)], cel := σ.cel, tbl := none } : St) = ⟨σ.toHp, [(x, y)], σ.cel, none⟩ := by rw [← h']
    show (ev cx cond { σ' with loc := [(x, y)], cel := σ.cel, tbl := none }).bind _ = _
    rw [this]; exact hg y hy, rfl⟩)
  show (ev cx it σ).bind _ = _
  rw [hi]
  show (match itsV σ.toHp vi with | some xs => _ | none => _) = _
  rw [hx]
  show (turns vi xs _ xs σ).bind _ = _
  rw [e2]
  show fits _ (Rs.ok _ { σ with toHp := σ2.toHp }) = _
  unfold fits
  rw [if_pos hn, h2]

noncomputable def barsV (xs : List Int) : List V := (xs.map fun x => V.int ((x.fdiv 4).fmod 2)) ++ [.int 1]
noncomputable def bars_X : X := (.bin .Add (.comp (.bin .Mod (.bin .FloorDiv (.var "x") (.int 4)) (.int 2)) "x" (.var "numbers") (.bool true)) (.list (.cons (.int 1) .nil)))
theorem bars_ev {cx : Sx} {xs : List Int} (hn : xs.length ≤ 8) {σ : St} (h : σ.loc.lookup ("numbers" : PySem.Str) = some (.list (xs.map .int))) : ev cx.toCx bars_X σ = .ok (.list (barsV xs)) σ := by
  have key := ev_comp_pure (cx := cx.toCx) (σ := σ) (elt := (.bin .Mod (.bin .FloorDiv (.var "x") (.int 4)) (.int 2))) (it := .var "numbers") (cond := .bool true) (x := "x") (vi := .list (xs.map .int)) (xs := xs.map .int)
    (fun v => match v with | .int x => some (.int ((x.fdiv 4).fmod 2)) | _ => none) (by simp only [evq_none, evq_bool, evq_int, evq_str, evq_var, evq_cv, evq_glob, evq_bin, evq_neg, evq_not, evq_cmp, evq_and, evq_or, evq_ite, evq_idx, evq_slc, evq_attr, evq_list, evq_tup, evq_nil, evq_cons, evq_call, evq_meth, evq_comp, evq_lam, evq_named, h]) rfl ?_ ?_
  · have e : (xs.map V.int).filterMap (fun v => match v with | .int x => some (V.int ((x.fdiv 4).fmod 2)) | _ => none) = xs.map fun x => V.int ((x.fdiv 4).fmod 2) := by
      rw [List.filterMap_map, ← List.filterMap_eq_map]; rfl
    rw [e] at key
    have e2 : binV σ.toHp .Add (.list (xs.map fun x => V.int ((x.fdiv 4).fmod 2))) (.list [.int 1]) = .ok (.list (barsV xs)) := bAddL (by rw [sizeLine_eq]; simp; omega)
    have e3 : ev cx.toCx (.list (.cons (.int 1) .nil)) σ = .ok (.list [.int 1]) σ := by
      simp only [evq_none, evq_bool, evq_int, evq_str, evq_var, evq_cv, evq_glob, evq_bin, evq_neg, evq_not, evq_cmp, evq_and, evq_or, evq_ite, evq_idx, evq_slc, evq_attr, evq_list, evq_tup, evq_nil, evq_cons, evq_call, evq_meth, evq_comp, evq_lam, evq_named, Rs.bind, argR, fits_ok (show ([.int 1] : List V).length ≤ 100 by decide)]
    have e4 : ev cx.toCx bars_X σ = (binV σ.toHp .Add (.list (xs.map fun x => V.int ((x.fdiv 4).fmod 2))) (.list [.int 1])).st σ := (Rs.bind_ok key : _).trans (Rs.bind_ok e3 : _)
    rw [e4, e2]; rfl
  · intro y hy
    obtain ⟨x, _, rfl⟩ := List.mem_map.mp hy
    have lk : List.lookup ("x" : PySem.Str) [(("x" : PySem.Str), V.int x)] = some (.int x) := rfl
    have d := @div_ok σ.toHp x 4 (by decide) (by decide)
    have m := @mod_ok σ.toHp (x.fdiv 4) 2 (by decide)
    simp only [evq_none, evq_bool, evq_int, evq_str, evq_var, evq_cv, evq_glob, evq_bin, evq_neg, evq_not, evq_cmp, evq_and, evq_or, evq_ite, evq_idx, evq_slc, evq_attr, evq_list, evq_tup, evq_nil, evq_cons, evq_call, evq_meth, evq_comp, evq_lam, evq_named, Rs.bind, condO, truV, lk, d, m, Ov.st]
  · refine Nat.le_trans (List.length_filterMap_le _ _) ?_
    rw [sizeLine_eq]; simp; omega
end Mine.L03
end
noncomputable section
set_option Elab.async false
set_option linter.all false
set_option maxRecDepth 100000
set_option maxHeartbeats 4000000
namespace Mine.L03
open PySem PySem.W PyProof.Rows Mine Mine.Re Mine.Tx

noncomputable def posB (xs : List Int) (k : Nat) : List V := (List.range k).map fun i => .int (stA (bareLs' xs) i : Nat)
noncomputable def posR (xs : List Int) (k : Nat) : List V := (List.range k).map fun i => .int (stA (richLs xs) (rho xs i) : Nat)
structure B3 (xs : List Int) (k : Nat) (σ : St) : Prop where
  nums : σ.loc.lookup ("numbers" : PySem.Str) = some (.list (xs.map .int))
  bare : σ.loc.lookup ("bare" : PySem.Str) = some (.str (txt (bareLs' (xs.take k))))
  rich : σ.loc.lookup ("rich" : PySem.Str) = some (.str (txt (richLs (xs.take k))))
  bs : σ.loc.lookup ("bare_starts" : PySem.Str) = some (.ref 2)
  rs : σ.loc.lookup ("rich_starts" : PySem.Str) = some (.ref 3)
  cel : σ.cel = ([("bars", 1)] : List (PySem.Str × Nat))
  o0 : σ.obj 0 = some (.tab lq)
  o1 : σ.obj 1 = some (.cell (some (.list (barsV xs))))
  o2 : σ.obj 2 = some (.list (posB xs k))
  o3 : σ.obj 3 = some (.list (posR xs k))
  nxt : σ.nxt = 4

theorem richLs_append (a b : List Int) : richLs (a ++ b) = richLs a ++ richLs b := by
  induction a with
  | nil => rfl
  | cons x r ih => show aheadLs x ++ rowL x :: richLs (r ++ b) = (aheadLs x ++ rowL x :: richLs r) ++ richLs b; rw [ih]; simp
theorem take_snoc {xs : List Int} {k : Nat} (hk : k < xs.length) : xs.take (k + 1) = xs.take k ++ [xs.getD k 0] := by
  rw [List.take_succ_eq_append_getElem hk]
  simp [List.getD_eq_getElem?_getD, List.getElem?_eq_getElem hk]
theorem bare_snoc {xs : List Int} {k : Nat} (hk : k < xs.length) : txt (bareLs' (xs.take k)) ++ bareStr (xs.getD k 0) = txt (bareLs' (xs.take (k + 1))) := by
  apply Str.eq_of
  rw [take_snoc hk]
  show ((txt (bareLs' (xs.take k))).cps ++ (bareStr (xs.getD k 0)).cps).toList = _
  rw [Array.toList_append, (bare_ok _).2]
  simp [txt, bareLs', flat]
theorem rich_snoc {xs : List Int} {k : Nat} (hk : k < xs.length) : txt (richLs (xs.take k)) ++ (aheadStr (xs.getD k 0) ++ rowStr (xs.getD k 0)) = txt (richLs (xs.take (k + 1))) := by
  apply Str.eq_of
  rw [take_snoc hk, richLs_append]
  show ((txt (richLs (xs.take k))).cps ++ ((aheadStr (xs.getD k 0)).cps ++ (rowStr (xs.getD k 0)).cps)).toList = _
  rw [Array.toList_append, Array.toList_append, (ahead_ok _).2, (row_ok _).2]
  simp [txt, richLs, flat_append, flat_cons, flat_nil]
theorem rho_take {xs : List Int} : ∀ {k : Nat}, k < xs.length → (richLs xs).take (rho xs k) = richLs (xs.take k) ++ aheadLs (xs.getD k 0) := by
  induction xs with
  | nil => intro k h; cases h
  | cons x r ih =>
    intro k h
    cases k with
    | zero =>
      show (aheadLs x ++ rowL x :: richLs r).take (aheadLs x).length = _
      rw [List.take_left']; rfl; rfl
    | succ k =>
      have := ih (Nat.lt_of_succ_lt_succ h)
      show (aheadLs x ++ rowL x :: richLs r).take ((aheadLs x).length + 1 + rho r k) = (aheadLs x ++ rowL x :: richLs (r.take k)) ++ aheadLs (r.getD k 0)
      rw [show (aheadLs x).length + 1 + rho r k = (aheadLs x).length + (rho r k + 1) by omega, List.take_length_add_append, List.take_succ_cons, this]
      simp
theorem rich_start {xs : List Int} {k : Nat} (hk : k < xs.length) : (txt (richLs (xs.take k))).length + (aheadStr (xs.getD k 0)).length = stA (richLs xs) (rho xs k) := by
  rw [txt_len]
  have : (aheadStr (xs.getD k 0)).length = (flat (aheadLs (xs.getD k 0))).length := by rw [← (ahead_ok _).2]; rfl
  rw [this]
  unfold stA
  rw [rho_take hk, flat_append, List.length_append]
theorem bare_start {xs : List Int} {k : Nat} : (txt (bareLs' (xs.take k))).length = stA (bareLs' xs) k := by
  rw [txt_len]
  unfold stA bareLs'
  rw [List.map_take]
end Mine.L03
end
noncomputable section
set_option Elab.async false
set_option linter.all false
set_option maxRecDepth 100000
set_option maxHeartbeats 4000000
namespace Mine.L03
open PySem PySem.W PyProof.Rows Mine Mine.Re Mine.Tx

theorem put_obj {σ : St} {k j : Nat} {o : O} : (σ.put k o).obj j = if j = k then some o else σ.obj j := rfl
theorem ev_append {G : Prg} {rows : Rows} {fI : Addr} {n : Nat} {σ σ₁ : St} {o a : X} {j : Nat} {vs ws : List V} {v : V} (ho : ev (tower G rows fI n).toCx o σ = .ok (.ref j) σ) (hl : σ.obj j = some (.list vs)) (ha : ev (tower G rows fI n).toCx a σ = .ok v σ₁) (hl' : σ₁.obj j = some (.list ws)) (hs : ws.length < 1000) :
    ev (tower G rows fI n).toCx (.meth o "append" (.cons a .nil)) σ = .ok .none (σ₁.put j (.list (ws ++ [v]))) := by
  have g : (tower G rows fI n).get (.ref j) "append" σ.toHp = some (.top (.builtin "list.append"), [.ref j]) := by
    rw [tower_get]; unfold getV instOf; simp only [hl]; rfl
  have happ : bapp "list.append" [.ref j, v] σ₁.toHp = okH .none { σ₁.toHp with obj := fun i => if i = j then some (.list (ws ++ [v])) else σ₁.obj i } := by
    unfold bapp; rw [if_neg (by decide), if_neg (by decide), if_pos rfl]
    unfold appendB
    simp only [hl']
    rw [if_pos (by rw [sizeLine_eq]; omega)]
  simp only [evq_none, evq_bool, evq_int, evq_str, evq_var, evq_cv, evq_glob, evq_bin, evq_neg, evq_not, evq_cmp, evq_and, evq_or, evq_ite, evq_idx, evq_slc, evq_attr, evq_list, evq_tup, evq_nil, evq_cons, evq_call, evq_meth, evq_comp, evq_lam, evq_named, ho, Rs.bind, g, ha, argR, List.cons_append, List.nil_append, tower_b, happ, okH, Rs.lift]
  rfl
theorem gd_aug {cx : Sx} {σ σ₁ : St} {Q : Fl → St → Prop} {x : PySem.Str} {op : Operator} {e : X} {u v r : V} (h1 : σ.loc.lookup x = some u) (h2 : ev cx.toCx e σ = .ok v σ₁) (h3 : augV u v = .ok r) (h : Q .next (σ₁.set x r)) : Gd (ex (.aug x op e) cx σ) Q := by
  have e1 : ev cx.toCx (.var x) σ = .ok u σ := by simp only [evq_none, evq_bool, evq_int, evq_str, evq_var, evq_cv, evq_glob, evq_bin, evq_neg, evq_not, evq_cmp, evq_and, evq_or, evq_ite, evq_idx, evq_slc, evq_attr, evq_list, evq_tup, evq_nil, evq_cons, evq_call, evq_meth, evq_comp, evq_lam, evq_named, h1]
  refine ⟨_, _, (Rs.bind_ok e1 : _).trans ((Rs.bind_ok h2 : _).trans ?_), h⟩
  rw [h3]; rfl
theorem len_text {cx : Sx} (B : Bs cx) {σ : St} {T : PySem.Str} {nm : PySem.Str} (h : σ.loc.lookup nm = some (.str T)) : ev cx.toCx (.call (.glob "len") (.cons (.var nm) .nil)) σ = .ok (.int T.length) σ := by
  have e : bapp "len" [.str T] σ.toHp = okH (.int T.length) σ.toHp := by unfold bapp; rw [if_pos rfl]; rfl
  simp only [evq_none, evq_bool, evq_int, evq_str, evq_var, evq_cv, evq_glob, evq_bin, evq_neg, evq_not, evq_cmp, evq_and, evq_or, evq_ite, evq_idx, evq_slc, evq_attr, evq_list, evq_tup, evq_nil, evq_cons, evq_call, evq_meth, evq_comp, evq_lam, evq_named, B.len, h, Rs.bind, argR, B.b, e, okH, Rs.lift]

noncomputable def lenX (x : PySem.Str) : X := .call (.glob "len") (.cons (.var x) .nil)
noncomputable def bodyL_S : S := (.seq (.expr (.meth (.var "bare_starts") "append" (.cons (lenX "bare") .nil))) (.seq (.aug "bare" .Add (.idx (.list (.cons (.str "x\n") (.cons (.str "def\n") (.cons (.str "x:\n") (.cons (.str "def:\n") .nil))))) (.bin .Mod (.var "x") (.int 4)))) (.seq (.asg2 "ahead" "row" (.call (.glob "_law_rich") (.cons (.var "x") .nil))) (.seq (.expr (.meth (.var "rich_starts") "append" (.cons (.bin .Add (lenX "rich") (lenX "ahead")) .nil))) (.seq (.aug "rich" .Add (.bin .Add (.var "ahead") (.var "row"))) .nil)))))
theorem bare_bound (xs : List Int) : (flat (bareLs' xs)).length ≤ 5 * xs.length := by
  induction xs with
  | nil => exact Nat.le_refl _
  | cons x r ih =>
    have : (bareL x).length ≤ 4 := by
      unfold bareL
      have h := fmod_lt x (n := 4) (by decide)
      rcases (show x.fmod 4 = 0 ∨ x.fmod 4 = 1 ∨ x.fmod 4 = 2 ∨ x.fmod 4 = 3 by omega) with a | a | a | a <;> rw [a] <;> decide
    show (flat (bareL x :: bareLs' r)).length ≤ _
    rw [flat_cons, List.length_append, List.length_cons, List.length_cons]
    omega
theorem row_len (x : Int) : (rowStr x).length ≤ 34 := by
  have h1 := fill_len x
  have h2 := head_len x
  have h3 : (blanksStr x).length ≤ 8 := getD_len _ _ _ (by decide +kernel)
  have h4 : (endStr x).length ≤ 8 := getD_len _ _ _ (by decide +kernel)
  unfold rowStr
  rw [str_len_append, str_len_append, str_len_append, str_len_append]
  have h5 : ("(" : PySem.Str).length = 1 := by decide
  omega
theorem ahead_len (x : Int) : (aheadStr x).length ≤ 9 := by
  have h1 := fill_len x
  unfold aheadStr
  refine getD_len _ _ _ ?_
  show (decide (("" : PySem.Str).length ≤ 9) && (decide (("#" ++ fillStr x ++ "\n").length ≤ 9) && (decide ((" \n" : PySem.Str).length ≤ 9) && true))) = true
  rw [str_len_append, str_len_append, h1]
  decide
theorem rich_bound (xs : List Int) : (flat (richLs xs)).length ≤ 50 * xs.length := by
  induction xs with
  | nil => exact Nat.le_refl _
  | cons x r ih =>
    have h1 := row_len x
    have h2 := ahead_len x
    have e1 : (rowStr x).length = (rowL x).length + 1 := by
      have := congrArg List.length (row_ok x).2
      rw [List.length_append, Array.length_toList] at this; exact this
    have e2 : (aheadStr x).length = (flat (aheadLs x)).length := by rw [← (ahead_ok x).2]; rfl
    show (flat (aheadLs x ++ rowL x :: richLs r)).length ≤ _
    rw [flat_append, flat_cons, List.length_append, List.length_append, List.length_cons, List.length_cons]
    omega
end Mine.L03
end
noncomputable section
set_option Elab.async false
set_option linter.all false
set_option maxRecDepth 100000
set_option maxHeartbeats 4000000
namespace Mine.L03
open PySem PySem.W PyProof.Rows Mine Mine.Re Mine.Tx

theorem gd_asg2L {cx : Sx} {σ σ₁ : St} {Q : Fl → St → Prop} {x y : PySem.Str} {e : X} {a b : V} (he : ev cx.toCx e σ = .ok (.list [a, b]) σ₁) (h : Q .next ((σ₁.set x a).set y b)) : Gd (ex (.asg2 x y e) cx σ) Q := ⟨_, _, (Rs.bind_ok he : _), h⟩
theorem put_ne {σ : St} {k j : Nat} {o : O} {r : Option O} (hne : j ≠ k) (h : σ.obj j = r) : (σ.put k o).obj j = r := (if_neg hne).trans h
theorem put_eq {σ : St} {k : Nat} {o : O} : (σ.put k o).obj k = some o := if_pos rfl
theorem aug_ok {a b : PySem.Str} (h : a.length + b.length ≤ sizeLine) : augV (.str a) (.str b) = .ok (.str (a ++ b)) := if_pos h
theorem posB_snoc (xs : List Int) (k : Nat) : posB xs (k + 1) = posB xs k ++ [.int (stA (bareLs' xs) k : Nat)] := by
  unfold posB; rw [List.range_succ, List.map_append]; rfl
theorem posR_snoc (xs : List Int) (k : Nat) : posR xs (k + 1) = posR xs k ++ [.int (stA (richLs xs) (rho xs k) : Nat)] := by
  unfold posR; rw [List.range_succ, List.map_append]; rfl
theorem posB_len (xs : List Int) (k : Nat) : (posB xs k).length = k := by unfold posB; rw [List.length_map, List.length_range]
theorem posR_len (xs : List Int) (k : Nat) : (posR xs k).length = k := by unfold posR; rw [List.length_map, List.length_range]
theorem bare_sz {xs : List Int} (h8 : xs.length ≤ 8) (k : Nat) : (txt (bareLs' (xs.take k))).length ≤ 40 := by
  rw [txt_len]
  have := bare_bound (xs.take k)
  rw [List.length_take] at this
  omega
theorem rich_sz {xs : List Int} (h8 : xs.length ≤ 8) (k : Nat) : (txt (richLs (xs.take k))).length ≤ 400 := by
  rw [txt_len]
  have := rich_bound (xs.take k)
  rw [List.length_take] at this
  omega

theorem body3 {p : Params} {xs : List Int} {k : Nat} (hk : k < xs.length) (h8 : xs.length ≤ 8) {σ : St} (h : B3 xs k σ) : Gd (ex bodyL_S (tower (G3 p) rows3 58 6) (σ.set "x" (.int (xs.getD k 0)))) fun f σ' => f = .next ∧ B3 xs (k + 1) σ' := by
  have B := bs_tower (pg3 (p := p)) 6
  have hz : sizeLine = 16777216 := by decide
  have hk1 : k < 1000 := Nat.lt_of_lt_of_le hk (Nat.le_trans h8 (by decide))
  generalize hx : xs.getD k 0 = x
  have e0 := bare_snoc hk
  have e1 := rich_snoc hk
  have e2 := rich_start hk
  have e3 := @bare_start xs k
  rw [hx] at e0 e1 e2
  have z0 := bare_sz h8 k
  have z1 := rich_sz h8 k
  have z2 := bare_sz h8 (k + 1)
  have z3 := rich_sz h8 (k + 1)
  rw [← e0, str_len_append] at z2
  rw [← e1, str_len_append, str_len_append] at z3
  have n0 : (σ.set "x" (.int x)).loc.lookup ("numbers" : PySem.Str) = some (.list (xs.map .int)) := look_ne (by decide) h.nums
  have b0 : (σ.set "x" (.int x)).loc.lookup ("bare" : PySem.Str) = some (.str (txt (bareLs' (xs.take k)))) := look_ne (by decide) h.bare
  have r0 : (σ.set "x" (.int x)).loc.lookup ("rich" : PySem.Str) = some (.str (txt (richLs (xs.take k)))) := look_ne (by decide) h.rich
  have bs0 : (σ.set "x" (.int x)).loc.lookup ("bare_starts" : PySem.Str) = some (.ref 2) := look_ne (by decide) h.bs
  have rs0 : (σ.set "x" (.int x)).loc.lookup ("rich_starts" : PySem.Str) = some (.ref 3) := look_ne (by decide) h.rs
  have x0 : (σ.set "x" (.int x)).loc.lookup ("x" : PySem.Str) = some (.int x) := look_eq
  have c0 : (σ.set "x" (.int x)).cel = ([("bars", 1)] : List (PySem.Str × Nat)) := h.cel
  have o0 : (σ.set "x" (.int x)).obj 0 = some (.tab lq) := h.o0
  have o1 : (σ.set "x" (.int x)).obj 1 = some (.cell (some (.list (barsV xs)))) := h.o1
  have o2 : (σ.set "x" (.int x)).obj 2 = some (.list (posB xs k)) := h.o2
  have o3 : (σ.set "x" (.int x)).obj 3 = some (.list (posR xs k)) := h.o3
  have nx : (σ.set "x" (.int x)).nxt = 4 := h.nxt
  generalize σ.set "x" (.int x) = σ at n0 b0 r0 bs0 rs0 x0 c0 o0 o1 o2 o3 nx ⊢
  unfold bodyL_S
  -- the bare start
  refine gd_seq (gd_expr (ev_append (j := 2) (vs := posB xs k) (ws := posB xs k) (by simp only [evq_none, evq_bool, evq_int, evq_str, evq_var, evq_cv, evq_glob, evq_bin, evq_neg, evq_not, evq_cmp, evq_and, evq_or, evq_ite, evq_idx, evq_slc, evq_attr, evq_list, evq_tup, evq_nil, evq_cons, evq_call, evq_meth, evq_comp, evq_lam, evq_named, bs0]) o2 (len_text B b0) o2 (by rw [posB_len]; exact hk1)) ?_)
  rw [e3, ← posB_snoc]
  have n1 : (σ.put 2 (.list (posB xs (k + 1)))).loc.lookup ("numbers" : PySem.Str) = _ := n0
  have b1 : (σ.put 2 (.list (posB xs (k + 1)))).loc.lookup ("bare" : PySem.Str) = _ := b0
  have r1 : (σ.put 2 (.list (posB xs (k + 1)))).loc.lookup ("rich" : PySem.Str) = _ := r0
  have bs1 : (σ.put 2 (.list (posB xs (k + 1)))).loc.lookup ("bare_starts" : PySem.Str) = _ := bs0
  have rs1 : (σ.put 2 (.list (posB xs (k + 1)))).loc.lookup ("rich_starts" : PySem.Str) = _ := rs0
  have x1 : (σ.put 2 (.list (posB xs (k + 1)))).loc.lookup ("x" : PySem.Str) = _ := x0
  have c1 : (σ.put 2 (.list (posB xs (k + 1)))).cel = _ := c0
  have p0 : (σ.put 2 (.list (posB xs (k + 1)))).obj 0 = _ := put_ne (by decide) o0
  have p1 : (σ.put 2 (.list (posB xs (k + 1)))).obj 1 = _ := put_ne (by decide) o1
  have p2 : (σ.put 2 (.list (posB xs (k + 1)))).obj 2 = some (.list (posB xs (k + 1))) := put_eq
  have p3 : (σ.put 2 (.list (posB xs (k + 1)))).obj 3 = _ := put_ne (by decide) o3
  have nx1 : (σ.put 2 (.list (posB xs (k + 1)))).nxt = 4 := nx
  clear n0 b0 r0 bs0 rs0 x0 c0 o0 o1 o2 o3 nx
  generalize σ.put 2 (.list (posB xs (k + 1))) = σ at n1 b1 r1 bs1 rs1 x1 c1 p0 p1 p2 p3 nx1 ⊢
  -- the bare row
  have hb : ev (tower (G3 p) rows3 58 6).toCx (.idx (.list (.cons (.str "x\n") (.cons (.str "def\n") (.cons (.str "x:\n") (.cons (.str "def:\n") .nil))))) (.bin .Mod (.var "x") (.int 4))) σ = .ok (.str (bareStr x)) σ := by
    have m := @mod_ok σ.toHp x 4 (by decide)
    have i := @idx_mod σ.toHp bareS x 4 rfl (by decide) (by decide)
    have q : bareS.map V.str = [.str "x\n", .str "def\n", .str "x:\n", .str "def:\n"] := rfl
    rw [q] at i
    simp only [evq_none, evq_bool, evq_int, evq_str, evq_var, evq_cv, evq_glob, evq_bin, evq_neg, evq_not, evq_cmp, evq_and, evq_or, evq_ite, evq_idx, evq_slc, evq_attr, evq_list, evq_tup, evq_nil, evq_cons, evq_call, evq_meth, evq_comp, evq_lam, evq_named, x1, Rs.bind, argR, Ov.st, fits_ok (show ([.str "x\n", .str "def\n", .str "x:\n", .str "def:\n"] : List V).length ≤ 100 by decide), m, i]
    rfl
  refine gd_seq (gd_aug b1 hb (aug_ok (by omega)) ?_)
  rw [e0]
  have n2 : (σ.set "bare" (.str (txt (bareLs' (xs.take (k + 1)))))).loc.lookup ("numbers" : PySem.Str) = _ := look_ne (by decide) n1
  have b2 : (σ.set "bare" (.str (txt (bareLs' (xs.take (k + 1)))))).loc.lookup ("bare" : PySem.Str) = _ := look_eq
  have r2 : (σ.set "bare" (.str (txt (bareLs' (xs.take (k + 1)))))).loc.lookup ("rich" : PySem.Str) = _ := look_ne (by decide) r1
  have bs2 : (σ.set "bare" (.str (txt (bareLs' (xs.take (k + 1)))))).loc.lookup ("bare_starts" : PySem.Str) = _ := look_ne (by decide) bs1
  have rs2 : (σ.set "bare" (.str (txt (bareLs' (xs.take (k + 1)))))).loc.lookup ("rich_starts" : PySem.Str) = _ := look_ne (by decide) rs1
  have x2 : (σ.set "bare" (.str (txt (bareLs' (xs.take (k + 1)))))).loc.lookup ("x" : PySem.Str) = _ := look_ne (by decide) x1
  have c2 : (σ.set "bare" (.str (txt (bareLs' (xs.take (k + 1)))))).cel = _ := c1
  have q0 : (σ.set "bare" (.str (txt (bareLs' (xs.take (k + 1)))))).obj 0 = _ := p0
  have q1 : (σ.set "bare" (.str (txt (bareLs' (xs.take (k + 1)))))).obj 1 = _ := p1
  have q2 : (σ.set "bare" (.str (txt (bareLs' (xs.take (k + 1)))))).obj 2 = _ := p2
  have q3 : (σ.set "bare" (.str (txt (bareLs' (xs.take (k + 1)))))).obj 3 = _ := p3
  have nx2 : (σ.set "bare" (.str (txt (bareLs' (xs.take (k + 1)))))).nxt = _ := nx1
  clear n1 b1 r1 bs1 rs1 x1 c1 p0 p1 p2 p3 nx1 hb
  generalize σ.set "bare" (.str (txt (bareLs' (xs.take (k + 1))))) = σ at n2 b2 r2 bs2 rs2 x2 c2 q0 q1 q2 q3 nx2 ⊢
  -- the rich row
  have hgr : (tower (G3 p) rows3 58 6).gl "_law_rich" = some (.top (.ref 170)) := by rw [tower_gl]; rfl
  have hr : ev (tower (G3 p) rows3 58 6).toCx (.call (.glob "_law_rich") (.cons (.var "x") .nil)) σ = .ok (.list [.str (aheadStr x), .str (rowStr x)]) σ := by
    have := rich_call (p := p) 3 σ x
    simp only [evq_none, evq_bool, evq_int, evq_str, evq_var, evq_cv, evq_glob, evq_bin, evq_neg, evq_not, evq_cmp, evq_and, evq_or, evq_ite, evq_idx, evq_slc, evq_attr, evq_list, evq_tup, evq_nil, evq_cons, evq_call, evq_meth, evq_comp, evq_lam, evq_named, hgr, x2, Rs.bind, argR]
    exact this
  refine gd_seq (gd_asg2L hr ?_)
  have n3 : ((σ.set "ahead" (.str (aheadStr x))).set "row" (.str (rowStr x))).loc.lookup ("numbers" : PySem.Str) = _ := look_ne (by decide) (look_ne (by decide) n2)
  have b3 : ((σ.set "ahead" (.str (aheadStr x))).set "row" (.str (rowStr x))).loc.lookup ("bare" : PySem.Str) = _ := look_ne (by decide) (look_ne (by decide) b2)
  have r3 : ((σ.set "ahead" (.str (aheadStr x))).set "row" (.str (rowStr x))).loc.lookup ("rich" : PySem.Str) = _ := look_ne (by decide) (look_ne (by decide) r2)
  have bs3 : ((σ.set "ahead" (.str (aheadStr x))).set "row" (.str (rowStr x))).loc.lookup ("bare_starts" : PySem.Str) = _ := look_ne (by decide) (look_ne (by decide) bs2)
  have rs3 : ((σ.set "ahead" (.str (aheadStr x))).set "row" (.str (rowStr x))).loc.lookup ("rich_starts" : PySem.Str) = _ := look_ne (by decide) (look_ne (by decide) rs2)
  have a3 : ((σ.set "ahead" (.str (aheadStr x))).set "row" (.str (rowStr x))).loc.lookup ("ahead" : PySem.Str) = _ := look_ne (by decide) look_eq
  have w3 : ((σ.set "ahead" (.str (aheadStr x))).set "row" (.str (rowStr x))).loc.lookup ("row" : PySem.Str) = _ := look_eq
  have c3 : ((σ.set "ahead" (.str (aheadStr x))).set "row" (.str (rowStr x))).cel = _ := c2
  have s0 : ((σ.set "ahead" (.str (aheadStr x))).set "row" (.str (rowStr x))).obj 0 = _ := q0
  have s1 : ((σ.set "ahead" (.str (aheadStr x))).set "row" (.str (rowStr x))).obj 1 = _ := q1
  have s2 : ((σ.set "ahead" (.str (aheadStr x))).set "row" (.str (rowStr x))).obj 2 = _ := q2
  have s3 : ((σ.set "ahead" (.str (aheadStr x))).set "row" (.str (rowStr x))).obj 3 = _ := q3
  have nx3 : ((σ.set "ahead" (.str (aheadStr x))).set "row" (.str (rowStr x))).nxt = _ := nx2
  clear n2 b2 r2 bs2 rs2 x2 c2 q0 q1 q2 q3 nx2 hr
  generalize (σ.set "ahead" (.str (aheadStr x))).set "row" (.str (rowStr x)) = σ at n3 b3 r3 bs3 rs3 a3 w3 c3 s0 s1 s2 s3 nx3 ⊢
  -- its start
  have hst : ev (tower (G3 p) rows3 58 6).toCx (.bin .Add (lenX "rich") (lenX "ahead")) σ = .ok (.int (stA (richLs xs) (rho xs k) : Nat)) σ := by
    have l1 := len_text B r3
    have l2 := len_text B a3
    rw [← e2, Int.natCast_add]
    exact (Rs.bind_ok l1 : _).trans (Rs.bind_ok l2 : _)
  refine gd_seq (gd_expr (ev_append (j := 3) (vs := posR xs k) (ws := posR xs k) (by simp only [evq_none, evq_bool, evq_int, evq_str, evq_var, evq_cv, evq_glob, evq_bin, evq_neg, evq_not, evq_cmp, evq_and, evq_or, evq_ite, evq_idx, evq_slc, evq_attr, evq_list, evq_tup, evq_nil, evq_cons, evq_call, evq_meth, evq_comp, evq_lam, evq_named, rs3]) s3 hst s3 (by rw [posR_len]; exact hk1)) ?_)
  rw [← posR_snoc]
  have hrow : ev (tower (G3 p) rows3 58 6).toCx (.bin .Add (.var "ahead") (.var "row")) (σ.put 3 (.list (posR xs (k + 1)))) = .ok (.str (aheadStr x ++ rowStr x)) (σ.put 3 (.list (posR xs (k + 1)))) := by
    have a4 : (σ.put 3 (.list (posR xs (k + 1)))).loc.lookup ("ahead" : PySem.Str) = _ := a3
    have w4 : (σ.put 3 (.list (posR xs (k + 1)))).loc.lookup ("row" : PySem.Str) = _ := w3
    have c := @cat_ok (σ.put 3 (.list (posR xs (k + 1)))).toHp (aheadStr x) (rowStr x) (by omega)
    simp only [evq_none, evq_bool, evq_int, evq_str, evq_var, evq_cv, evq_glob, evq_bin, evq_neg, evq_not, evq_cmp, evq_and, evq_or, evq_ite, evq_idx, evq_slc, evq_attr, evq_list, evq_tup, evq_nil, evq_cons, evq_call, evq_meth, evq_comp, evq_lam, evq_named, a4, w4, Rs.bind, c, Ov.st]
  refine gd_seq (gd_aug (u := .str (txt (richLs (xs.take k)))) r3 hrow (aug_ok (by rw [str_len_append]; omega)) (gd_nil ?_))
  rw [e1]
  exact ⟨rfl, look_ne (by decide) n3, look_ne (by decide) b3, look_eq, look_ne (by decide) bs3, look_ne (by decide) rs3, c3, put_ne (by decide) s0, put_ne (by decide) s1, put_ne (by decide) s2, put_eq, nx3⟩

theorem loop3 {p : Params} {xs : List Int} (h8 : xs.length ≤ 8) {σ : St} (h : B3 xs 0 σ) : Gd (ex (.each "x" (.var "numbers") bodyL_S) (tower (G3 p) rows3 58 6) σ) fun f σ' => f = .next ∧ B3 xs xs.length σ' := by
  refine gd_each (v := .list (xs.map .int)) (xs := xs.map .int) (σ₁ := σ) (by simp only [evq_none, evq_bool, evq_int, evq_str, evq_var, evq_cv, evq_glob, evq_bin, evq_neg, evq_not, evq_cmp, evq_and, evq_or, evq_ite, evq_idx, evq_slc, evq_attr, evq_list, evq_tup, evq_nil, evq_cons, evq_call, evq_meth, evq_comp, evq_lam, evq_named, h.nums]) rfl (fun l σ => ∃ k, k ≤ xs.length ∧ l = (xs.drop k).map .int ∧ B3 xs k σ) ⟨0, Nat.zero_le _, rfl, h⟩ (fun _ _ _ => rfl) ?_ ?_
  · rintro y r σ ⟨k, hk, e, hB⟩
    have hk' : k < xs.length := by
      refine Nat.lt_of_le_of_ne hk fun q => ?_
      rw [q, List.drop_length] at e; cases e
    rw [List.drop_eq_getElem_cons hk', List.map_cons] at e
    obtain ⟨e1, e2⟩ := List.cons.inj e
    have e3 : xs[k] = xs.getD k 0 := by simp [List.getD_eq_getElem?_getD, List.getElem?_eq_getElem hk']
    rw [e1, e3]
    refine (body3 hk' h8 hB).mono ?_
    rintro f σ' ⟨rfl, hB'⟩
    exact ⟨k + 1, hk', e2, hB'⟩
  · rintro σ ⟨k, hk, e, hB⟩
    have : k = xs.length := by
      refine Nat.le_antisymm hk (Nat.not_lt.mp fun q => ?_)
      rw [List.drop_eq_getElem_cons q] at e; cases e
    subst this
    exact ⟨rfl, hB⟩
end Mine.L03
end
noncomputable section
set_option Elab.async false
set_option linter.all false
set_option maxRecDepth 100000
set_option maxHeartbeats 4000000
namespace Mine.L03
open PySem PySem.W PyProof.Rows Mine Mine.Re Mine.Tx

theorem lk_eq {α : Type} {x : PySem.Str} {v : α} {r : List (PySem.Str × α)} : ((x, v) :: r).lookup x = some v := by simp [List.lookup]
theorem lk_ne {α : Type} {x y : PySem.Str} {v : α} {r : List (PySem.Str × α)} {o : Option α} (h : (y == x) = false) (hr : r.lookup y = o) : ((x, v) :: r).lookup y = o := by simp only [List.lookup, h]; exact hr
theorem seq_next {cx : Sx} {σ σ₁ : St} {a b : S} {r : Rs Fl} (h1 : ex a cx σ = .ok .next σ₁) (h2 : ex b cx σ₁ = r) : ex (.seq a b) cx σ = r := (Rs.bind_ok h1 : _).trans h2
theorem seq_ret {cx : Sx} {σ σ₁ : St} {a b : S} {v : V} (h1 : ex a cx σ = .ok (.ret v) σ₁) : ex (.seq a b) cx σ = .ok (.ret v) σ₁ := (Rs.bind_ok h1 : _)
theorem expr_ok {cx : Sx} {σ σ₁ : St} {e : X} {v : V} (h1 : ev cx.toCx e σ = .ok v σ₁) : ex (.expr e) cx σ = .ok .next σ₁ := (Rs.bind_ok h1 : _)
theorem ret_ok {cx : Sx} {σ σ₁ : St} {e : X} {v : V} (h1 : ev cx.toCx e σ = .ok v σ₁) : ex (.ret e) cx σ = .ok (.ret v) σ₁ := (Rs.bind_ok h1 : _)
/-! ## _law_test -/
noncomputable def hput (H : Hp) (k : Nat) (o : O) : Hp := { H with obj := fun j => if j = k then some o else H.obj j }
noncomputable def ixOf (sts : List Int) (p : Nat) : Nat := (sts ++ [(p : Int)]).idxOf (p : Int)
noncomputable def testF (sts bars : List Int) (p : Nat) (m : List Nat) : Bool × List Nat := (bars.getD (ixOf sts p) 0 == 1, m ++ [ixOf sts p])
noncomputable def natsV (m : List Nat) : List V := m.map fun i => .int (i : Nat)
theorem ixOf_lt (sts : List Int) (p : Nat) : ixOf sts p < sts.length + 1 := by
  have := List.idxOf_lt_length_of_mem (l := sts ++ [(p : Int)]) (a := (p : Int)) (by simp)
  rw [List.length_append, List.length_singleton] at this
  exact this
theorem ints_of (ns : List Int) : intsOf (ns.map V.int) = some ns := by
  induction ns with
  | nil => rfl
  | cons x r ih => show (intsOf (r.map V.int)).map (fun l => x :: l) = _; rw [ih]; rfl
theorem ev_index {p : Params} {n : Nat} {σ : St} {o a : X} {js q : Nat} {sts : List Int} (ho : ev (tower (G3 p) rows3 58 n).toCx o σ = .ok (.ref js) σ) (hs : σ.obj js = some (.list (sts.map .int))) (hl : sts.length < 1000) (ha : ev (tower (G3 p) rows3 58 n).toCx a σ = .ok (.int (q : Nat)) σ) :
    ev (tower (G3 p) rows3 58 n).toCx (.meth (.bin .Add o (.list (.cons a .nil))) "index" (.cons a .nil)) σ = .ok (.int (ixOf sts q : Nat)) σ := by
  have e1 : binV σ.toHp .Add (.ref js) (.list [.int (q : Int)]) = .ok (.list ((sts ++ [(q : Int)]).map .int)) := by
    show catV σ.toHp (.ref js) (.list [.int (q : Int)]) = _
    unfold catV
    simp only [asList, hs]
    rw [if_pos (by rw [sizeLine_eq, List.length_map, List.length_singleton]; omega), List.map_append]
    rfl
  have g : (tower (G3 p) rows3 58 n).get (.list ((sts ++ [(q : Int)]).map .int)) "index" σ.toHp = some (.top (.builtin "list.index"), [.list ((sts ++ [(q : Int)]).map .int)]) := by
    rw [tower_get]; rfl
  have e2 : bapp "list.index" [.list ((sts ++ [(q : Int)]).map .int), .int (q : Int)] σ.toHp = okH (.int (ixOf sts q : Nat)) σ.toHp := by
    unfold bapp
    rw [if_neg (by decide), if_neg (by decide), if_neg (by decide), if_neg (by decide), if_pos rfl]
    show ((some ((sts ++ [(q : Int)]).map V.int)).bind intsOf).elim Rs.bad (fun ns => if ns.idxOf (q : Int) < ns.length then okH (.int (ns.idxOf (q : Int) : Nat)) σ.toHp else .bad) = _
    rw [Option.bind_some, ints_of]
    exact if_pos (by rw [List.length_append, List.length_singleton]; exact ixOf_lt sts q)
  simp only [evq_none, evq_bool, evq_int, evq_str, evq_var, evq_cv, evq_glob, evq_bin, evq_neg, evq_not, evq_cmp, evq_and, evq_or, evq_ite, evq_idx, evq_slc, evq_attr, evq_list, evq_tup, evq_nil, evq_cons, evq_call, evq_meth, evq_comp, evq_lam, evq_named, ho, ha, Rs.bind, argR, fits_ok (show ([.int (q : Int)] : List V).length ≤ 100 by exact (by decide : 1 ≤ 100)), e1, Ov.st, g, List.cons_append, List.nil_append, tower_b, e2, okH, Rs.lift]

theorem idx_neg1 {H : Hp} {v : V} {xs : List V} {y : V} (hs : strOf v = none) (h : asList H v = some (xs ++ [y])) : idxV H v (.int (-1)) = .ok y := by
  have hq : seqIndex? (-1) (xs ++ [y]).length = some xs.length := by
    rw [ix_last (by rw [List.length_append]; exact Nat.succ_pos _), List.length_append, List.length_singleton, Nat.add_sub_cancel]
  exact idx_list hs h (by decide) hq (by rw [List.getElem?_append_right (Nat.le_refl _), Nat.sub_self]; rfl)
theorem idx_bar {H : Hp} {bars : List Int} {i : Nat} (hi : i < bars.length) (hl : i < 10000) : idxV H (.list (bars.map .int)) (.int (i : Nat)) = .ok (.int (bars.getD i 0)) := by
  rw [List.getD_eq_getElem?_getD, List.getElem?_eq_getElem hi]
  exact idx_list rfl rfl (fits_nat (by rw [sizeLine_eq]; omega)) (ix_nat (by rw [List.length_map]; exact hi)) (by rw [List.getElem?_map, List.getElem?_eq_getElem hi]; rfl)

theorem ev_idx {cx : Cx} {σ : St} {a b : X} {v w r : V} (a1 : ev cx a σ = .ok v σ) (a2 : ev cx b σ = .ok w σ) (h : idxV σ.toHp v w = .ok r) : ev cx (.idx a b) σ = .ok r σ :=
  (Rs.bind_ok a1 : _).trans ((Rs.bind_ok a2 : _).trans (by rw [h]; rfl))
theorem ev_var {cx : Cx} {σ : St} {x : PySem.Str} {v : V} (h : σ.loc.lookup x = some v) : ev cx (.var x) σ = .ok v σ := by simp only [evq_none, evq_bool, evq_int, evq_str, evq_var, evq_cv, evq_glob, evq_bin, evq_neg, evq_not, evq_cmp, evq_and, evq_or, evq_ite, evq_idx, evq_slc, evq_attr, evq_list, evq_tup, evq_nil, evq_cons, evq_call, evq_meth, evq_comp, evq_lam, evq_named, h]
theorem ev_is1 {cx : Cx} {σ : St} {a : X} {b : Int} (a1 : ev cx a σ = .ok (.int b) σ) (c : Int) : ev cx (.cmp .Eq a (.int c)) σ = .ok (.bool (b == c)) σ := (Rs.bind_ok a1 : _)
theorem ev_m1 {cx : Cx} {σ : St} : ev cx (.neg (.int 1)) σ = .ok (.int (-1)) σ := rfl
section
variable {p : Params} {n : Nat} {ja js q : Nat} {m : List Nat} {sts bars : List Int}
theorem test_run {H : Hp} (hne : js ≠ ja) (ha : H.obj ja = some (.list (natsV m))) (hs : H.obj js = some (.list (sts.map .int))) (hm : m.length < 1000) (hl : sts.length < 1000) (hb : bars.length = sts.length + 1) :
    ∃ σ', ex test_S (tower (G3 p) rows3 58 n) { toHp := H, loc := [("asked", .ref ja), ("starts", .ref js), ("bars", .list (bars.map .int)), ("place", .int (q : Nat))], cel := [] } = .ok (.ret (.bool (testF sts bars q m).1)) σ' ∧ σ'.toHp = hput H ja (.list (natsV (testF sts bars q m).2)) := by
  let σ : St := { toHp := H, loc := [("asked", .ref ja), ("starts", .ref js), ("bars", .list (bars.map .int)), ("place", .int (q : Nat))], cel := [] }
  have l1 : σ.loc.lookup ("asked" : PySem.Str) = some (.ref ja) := lk_eq
  have l2 : σ.loc.lookup ("starts" : PySem.Str) = some (.ref js) := lk_ne (by decide) lk_eq
  have l3 : σ.loc.lookup ("bars" : PySem.Str) = some (.list (bars.map .int)) := lk_ne (by decide) (lk_ne (by decide) lk_eq)
  have l4 : σ.loc.lookup ("place" : PySem.Str) = some (.int (q : Nat)) := lk_ne (by decide) (lk_ne (by decide) (lk_ne (by decide) lk_eq))
  have hix := ixOf_lt sts q
  have hi := ev_index (p := p) (n := n) (σ := σ) (o := .var "starts") (a := .var "place") (q := q) (by simp only [evq_none, evq_bool, evq_int, evq_str, evq_var, evq_cv, evq_glob, evq_bin, evq_neg, evq_not, evq_cmp, evq_and, evq_or, evq_ite, evq_idx, evq_slc, evq_attr, evq_list, evq_tup, evq_nil, evq_cons, evq_call, evq_meth, evq_comp, evq_lam, evq_named, l2]) hs hl (by simp only [evq_none, evq_bool, evq_int, evq_str, evq_var, evq_cv, evq_glob, evq_bin, evq_neg, evq_not, evq_cmp, evq_and, evq_or, evq_ite, evq_idx, evq_slc, evq_attr, evq_list, evq_tup, evq_nil, evq_cons, evq_call, evq_meth, evq_comp, evq_lam, evq_named, l4])
  have he := ev_append (G := G3 p) (rows := rows3) (fI := 58) (n := n) (σ := σ) (o := .var "asked") (by simp only [evq_none, evq_bool, evq_int, evq_str, evq_var, evq_cv, evq_glob, evq_bin, evq_neg, evq_not, evq_cmp, evq_and, evq_or, evq_ite, evq_idx, evq_slc, evq_attr, evq_list, evq_tup, evq_nil, evq_cons, evq_call, evq_meth, evq_comp, evq_lam, evq_named, l1]) ha hi ha (by unfold natsV; rw [List.length_map]; exact hm)
  generalize hi' : ixOf sts q = i at hi he hix
  have e0 : natsV m ++ [.int (i : Nat)] = natsV (m ++ [i]) := by unfold natsV; rw [List.map_append]; rfl
  rw [e0] at he
  refine ⟨σ.put ja (.list (natsV (m ++ [i]))), ?_, by unfold testF; rw [hi']; rfl⟩
  have k1 : (σ.put ja (.list (natsV (m ++ [i])))).loc.lookup ("asked" : PySem.Str) = some (.ref ja) := l1
  have k3 : (σ.put ja (.list (natsV (m ++ [i])))).loc.lookup ("bars" : PySem.Str) = some (.list (bars.map .int)) := l3
  have hx1 : idxV (σ.put ja (.list (natsV (m ++ [i])))).toHp (.ref ja) (.int (-1)) = .ok (.int (i : Nat)) := by
    refine idx_neg1 (xs := natsV m) rfl ?_
    show (match (σ.put ja (.list (natsV (m ++ [i])))).obj ja with | some (.list xs) => some xs | _ => none) = _
    rw [put_eq, e0]
  have hx2 := @idx_bar (σ.put ja (.list (natsV (m ++ [i])))).toHp bars i (by omega) (by omega)
  have hr := ev_is1 (ev_idx (cx := (tower (G3 p) rows3 58 n).toCx) (ev_var k3) (ev_idx (ev_var k1) ev_m1 hx1) hx2) 1
  have ht : (testF sts bars q m).1 = (bars.getD i 0 == 1) := by unfold testF; rw [hi']
  rw [ht]
  generalize (σ.put ja (.list (natsV (m ++ [i])))) = σ1 at hr he ⊢
  exact seq_next (expr_ok he) (seq_ret (ret_ok hr))

theorem entryTest (H : Hp) (a b c d : V) : entry scTest ((["asked", "starts", "bars", "place"] : List PySem.Str).zip [a, b, c, d]) H = { toHp := H, loc := [("asked", a), ("starts", b), ("bars", c), ("place", d)], cel := [] } := by
  have e : ∀ x : PySem.Str, x ∈ (["asked", "starts", "bars", "place"] : List PySem.Str) → (scTest.names.lookup x == some .local) = true := by decide
  have f : (([("asked", a), ("starts", b), ("bars", c), ("place", d)] : List (PySem.Str × V)).filter fun p => scTest.names.lookup p.1 == some .local) = ([("asked", a), ("starts", b), ("bars", c), ("place", d)] : List (PySem.Str × V)) := by
    rw [List.filter_eq_self]
    intro q hq
    simp only [List.mem_cons, List.not_mem_nil, or_false] at hq
    rcases hq with rfl | rfl | rfl | rfl
    · exact e "asked" (by decide)
    · exact e "starts" (by decide)
    · exact e "bars" (by decide)
    · exact e "place" (by decide)
  unfold entry
  exact congrArg (fun l => ({ toHp := H, loc := l, cel := [] } : St)) f

noncomputable def testX : X := .call (.glob "_law_test") (.cons (.cv "asked") (.cons (.cv "starts") (.cons (.cv "bars") (.cons (.var "place") .nil))))
noncomputable def cels (N : Nat) : List (PySem.Str × Nat) := [("asked", N + 2), ("bars", N + 1), ("starts", N)]
/-- the heap while a search runs -/
structure Run3 (H : Hp) (N js : Nat) (sts bars : List Int) : Prop where
  c0 : H.obj N = some (.cell (some (.ref js)))
  c1 : H.obj (N + 1) = some (.cell (some (.list (bars.map .int))))
  c2 : H.obj (N + 2) = some (.cell (some (.ref (N + 3))))
  st : H.obj js = some (.list (sts.map .int))
  ne : js < N
noncomputable def AskI (H0 : Hp) (N : Nat) (c : Nat) (m : List Nat) (H : Hp) : Prop := c + m.length < 1000 ∧ H = hput H0 (N + 3) (.list (natsV m))

theorem test_ok {H0 : Hp} {N : Nat} (R : Run3 H0 N js sts bars) (hl : sts.length < 1000) (hb : bars.length = sts.length + 1) :
    TestOk (tower (G3 p) rows3 58 (n + 3)) (.clo ["place"] testX (cels N)) (AskI H0 N) (testF sts bars) := by
  refine ⟨fun c m H h => ⟨by have := h.1; omega, h.2⟩, fun c q m H h => ?_⟩
  obtain ⟨h1, rfl⟩ := h
  have hlen : (testF sts bars q m).2.length = m.length + 1 := by unfold testF; rw [List.length_append, List.length_singleton]
  refine ⟨hput H0 (N + 3) (.list (natsV (testF sts bars q m).2)), ⟨by rw [hlen]; omega, rfl⟩, fun σ => ?_⟩
  rw [tower_l (n + 2)]
  have hrl : runLam (["place"] : List PySem.Str) testX (cels N) (tower (G3 p) rows3 58 (n + 2)).toCx [.int (q : Nat)] (hput H0 (N + 3) (.list (natsV m))) = ev (tower (G3 p) rows3 58 (n + 2)).toCx testX { toHp := hput H0 (N + 3) (.list (natsV m)), loc := (["place"] : List PySem.Str).zip [.int (q : Nat)], cel := cels N } := if_pos rfl
  rw [hrl]
  have ob : ∀ j, j ≠ N + 3 → (hput H0 (N + 3) (.list (natsV m))).obj j = H0.obj j := fun j hj => if_neg hj
  let σ1 : St := { toHp := hput H0 (N + 3) (.list (natsV m)), loc := (["place"] : List PySem.Str).zip [.int (q : Nat)], cel := cels N }
  have g : (tower (G3 p) rows3 58 (n + 2)).gl "_law_test" = some (.top (.ref 177)) := by rw [tower_gl]; rfl
  have a1 : ev (tower (G3 p) rows3 58 (n + 2)).toCx (.cv "asked") σ1 = .ok (.ref (N + 3)) σ1 := by
    have : σ1.cel.lookup ("asked" : PySem.Str) = some (N + 2) := lk_eq
    have o : σ1.obj (N + 2) = some (.cell (some (.ref (N + 3)))) := (ob _ (by omega)).trans R.c2
    simp only [evq_none, evq_bool, evq_int, evq_str, evq_var, evq_cv, evq_glob, evq_bin, evq_neg, evq_not, evq_cmp, evq_and, evq_or, evq_ite, evq_idx, evq_slc, evq_attr, evq_list, evq_tup, evq_nil, evq_cons, evq_call, evq_meth, evq_comp, evq_lam, evq_named, this, o]
  have a2 : ev (tower (G3 p) rows3 58 (n + 2)).toCx (.cv "starts") σ1 = .ok (.ref js) σ1 := by
    have : σ1.cel.lookup ("starts" : PySem.Str) = some N := lk_ne (by decide) (lk_ne (by decide) lk_eq)
    have o : σ1.obj N = some (.cell (some (.ref js))) := (ob _ (by omega)).trans R.c0
    simp only [evq_none, evq_bool, evq_int, evq_str, evq_var, evq_cv, evq_glob, evq_bin, evq_neg, evq_not, evq_cmp, evq_and, evq_or, evq_ite, evq_idx, evq_slc, evq_attr, evq_list, evq_tup, evq_nil, evq_cons, evq_call, evq_meth, evq_comp, evq_lam, evq_named, this, o]
  have a3 : ev (tower (G3 p) rows3 58 (n + 2)).toCx (.cv "bars") σ1 = .ok (.list (bars.map .int)) σ1 := by
    have : σ1.cel.lookup ("bars" : PySem.Str) = some (N + 1) := lk_ne (by decide) lk_eq
    have o : σ1.obj (N + 1) = some (.cell (some (.list (bars.map .int)))) := (ob _ (by omega)).trans R.c1
    simp only [evq_none, evq_bool, evq_int, evq_str, evq_var, evq_cv, evq_glob, evq_bin, evq_neg, evq_not, evq_cmp, evq_and, evq_or, evq_ite, evq_idx, evq_slc, evq_attr, evq_list, evq_tup, evq_nil, evq_cons, evq_call, evq_meth, evq_comp, evq_lam, evq_named, this, o]
  have a4 : ev (tower (G3 p) rows3 58 (n + 2)).toCx (.var "place") σ1 = .ok (.int (q : Nat)) σ1 := by
    have : σ1.loc.lookup ("place" : PySem.Str) = some (.int (q : Nat)) := rfl
    simp only [evq_none, evq_bool, evq_int, evq_str, evq_var, evq_cv, evq_glob, evq_bin, evq_neg, evq_not, evq_cmp, evq_and, evq_or, evq_ite, evq_idx, evq_slc, evq_attr, evq_list, evq_tup, evq_nil, evq_cons, evq_call, evq_meth, evq_comp, evq_lam, evq_named, this]
  have hj := R.ne
  obtain ⟨σ', e, h'⟩ := @test_run p (n + 1) (N + 3) js q m sts bars (hput H0 (N + 3) (.list (natsV m))) (by omega) (if_pos rfl) ((ob _ (by omega)).trans R.st) (by omega) hl hb
  have hrow : rows3.lookup 177 = some (scTest, (["asked", "starts", "bars", "place"] : List PySem.Str), test_S) := by rfl
  have call : (tower (G3 p) rows3 58 (n + 2)).app (.top (.ref 177)) [.ref (N + 3), .ref js, .list (bars.map .int), .int (q : Nat)] σ1.toHp = .ok (.bool (testF sts bars q m).1) σ' := by
    rw [tower_r n 177 (by show (177 : Nat) ≠ 152; decide) (by show (177 : Nat) ≠ 44; decide)]
    unfold rowRun
    rw [hrow]
    dsimp only
    rw [runFn_eq rfl, show tbFor (G3 p).tb 177 = none from rfl, entryT_none, entryTest]
    exact (Rs.bind_ok e : _)
  have hev : ev (tower (G3 p) rows3 58 (n + 2)).toCx testX σ1 = .ok (.bool (testF sts bars q m).1) { σ1 with toHp := σ'.toHp } := by
    unfold testX
    have hg : ev (tower (G3 p) rows3 58 (n + 2)).toCx (.glob "_law_test") σ1 = .ok (.top (.ref 177)) σ1 := by simp only [evq_none, evq_bool, evq_int, evq_str, evq_var, evq_cv, evq_glob, evq_bin, evq_neg, evq_not, evq_cmp, evq_and, evq_or, evq_ite, evq_idx, evq_slc, evq_attr, evq_list, evq_tup, evq_nil, evq_cons, evq_call, evq_meth, evq_comp, evq_lam, evq_named, g]
    rw [evq_call]
    rw [hg]
    simp only [Rs.bind]
    rw [evq_cons, a1]; simp only [Rs.bind]
    rw [evq_cons, a2]; simp only [Rs.bind]
    rw [evq_cons, a3]; simp only [Rs.bind]
    rw [evq_cons, a4]; simp only [Rs.bind]
    rw [evq_nil]
    simp only [argR, call, Rs.lift]
  rw [hev]
  show Rs.ok _ { σ with toHp := σ'.toHp } = _
  rw [h']
  have hh : ∀ a b : O, hput (hput H0 (N + 3) a) (N + 3) b = hput H0 (N + 3) b := fun a b => by
    unfold hput
    refine congrArg (fun o => Hp.mk o H0.nxt) (funext fun j => ?_)
    show (if j = N + 3 then some b else if j = N + 3 then some a else H0.obj j) = if j = N + 3 then some b else H0.obj j
    split <;> rfl
  rw [hh]
end
end Mine.L03
end
noncomputable section
set_option Elab.async false
set_option linter.all false
set_option maxRecDepth 100000
set_option maxHeartbeats 4000000
namespace Mine.L03
open PySem PySem.W PyProof.Rows Mine Mine.Re Mine.Tx

/-! ## _law_run -/
noncomputable def cells3 (H : Hp) (js : Nat) (bars : List Int) : Hp := ((H.add (.cell (some (.ref js)))).add (.cell (some (.list (bars.map .int))))).add (.cell none)
theorem entryRun (H : Hp) (T : PySem.Str) (js : Nat) (bars : List Int) : entryT (some lq) scRun ((["text", "starts", "bars"] : List PySem.Str).zip [.str T, .ref js, .list (bars.map .int)]) H = { toHp := cells3 H js bars, loc := [("text", .str T)], cel := cels H.nxt, tbl := some (0, lq) } := by
  have f1 : (scRun.names.lookup ("text" : PySem.Str) == some .local) = true := by decide
  have f2 : (scRun.names.lookup ("starts" : PySem.Str) == some .local) = false := by decide
  have f3 : (scRun.names.lookup ("bars" : PySem.Str) == some .local) = false := by decide
  generalize hbv : (["text", "starts", "bars"] : List PySem.Str).zip [V.str T, .ref js, .list (bars.map .int)] = bv
  have g1 : bv.lookup ("starts" : PySem.Str) = some (.ref js) := by rw [← hbv]; exact lk_ne (by decide) lk_eq
  have g2 : bv.lookup ("bars" : PySem.Str) = some (.list (bars.map .int)) := by rw [← hbv]; exact lk_ne (by decide) (lk_ne (by decide) lk_eq)
  have g3 : bv.lookup ("asked" : PySem.Str) = none := by rw [← hbv]; exact lk_ne (by decide) (lk_ne (by decide) (lk_ne (by decide) rfl))
  have hc : cellsH bv scRun.names H [] = (cells3 H js bars, cels H.nxt) := by
    unfold scRun fnSc
    simp only [cellsH, g1, g2, g3, show (NameKind.local == NameKind.cell) = false from rfl, show (NameKind.cell == NameKind.cell) = true from rfl, show (NameKind.globalImplicit == NameKind.cell) = false from rfl, if_true, Bool.false_eq_true, if_false]
    rfl
  have hf : (bv.filter fun p => scRun.names.lookup p.1 == some .local) = ([("text", .str T)] : List (PySem.Str × V)) := by
    rw [← hbv]
    show List.filter _ ((("text" : PySem.Str), V.str T) :: (("starts" : PySem.Str), V.ref js) :: (("bars" : PySem.Str), V.list (bars.map .int)) :: []) = _
    simp only [List.filter, f1, f2, f3]
  unfold entryT entry
  rw [hc, hf]
  rfl

noncomputable def toldV (ls : List (List Nat)) (sts : List Int) : Option Nat → V
  | none => .none
  | some r => .int (ixOf sts (stA ls r) : Nat)
theorem ev_cv {cx : Cx} {σ : St} {x : PySem.Str} {k : Nat} {v : V} (h : σ.cel.lookup x = some k) (o : σ.obj k = some (.cell (some v))) : ev cx (.cv x) σ = .ok v σ := by simp only [evq_none, evq_bool, evq_int, evq_str, evq_var, evq_cv, evq_glob, evq_bin, evq_neg, evq_not, evq_cmp, evq_and, evq_or, evq_ite, evq_idx, evq_slc, evq_attr, evq_list, evq_tup, evq_nil, evq_cons, evq_call, evq_meth, evq_comp, evq_lam, evq_named, h, o]
theorem ev_list2 {cx : Cx} {σ : St} {a b : X} {v w : V} (h1 : ev cx a σ = .ok v σ) (h2 : ev cx b σ = .ok w σ) : ev cx (.list (.cons a (.cons b .nil))) σ = .ok (.list [v, w]) σ := by
  simp only [evq_none, evq_bool, evq_int, evq_str, evq_var, evq_cv, evq_glob, evq_bin, evq_neg, evq_not, evq_cmp, evq_and, evq_or, evq_ite, evq_idx, evq_slc, evq_attr, evq_list, evq_tup, evq_nil, evq_cons, evq_call, evq_meth, evq_comp, evq_lam, evq_named, h1, h2, Rs.bind, argR]
  exact fits_ok (by show 2 ≤ 100; decide)
theorem ev_isnone {cx : Cx} {σ : St} {a : X} {v : V} {b : Bool} (h1 : ev cx a σ = .ok v σ) (hb : isNoneB v = some b) : ev cx (.cmp .Is a .none) σ = .ok (.bool b) σ := by
  refine (Rs.bind_ok h1 : _).trans ?_
  show (boolO (isNoneB v)).st σ = _
  rw [hb]; rfl

section
variable {p : Params} {js : Nat} {sts bars : List Int} {ls : List (List Nat)}
/-- the frame in front of the search -/
structure Pre3 (H : Hp) (N js : Nat) (bars : List Int) (ls : List (List Nat)) (σ : St) : Prop where
  low : ∀ j, j < N → σ.obj j = H.obj j
  c0 : σ.obj N = some (.cell (some (.ref js)))
  c1 : σ.obj (N + 1) = some (.cell (some (.list (bars.map .int))))
  c2 : σ.obj (N + 2) = some (.cell (some (.ref (N + 3))))
  c3 : σ.obj (N + 3) = some (.list [])
  cel : σ.cel = cels N
  tbl : σ.tbl = some (0, lq)
  text : σ.loc.lookup ("text" : PySem.Str) = some (.str (txt ls))

theorem run_start {H : Hp} {N : Nat} (hN : H.nxt = N) {Q : Fl → St → Prop} (h : ∀ σ, Pre3 H N js bars ls σ → σ.nxt = N + 4 → Q .next σ) :
    Gd (ex (.ownC "asked" (.list .nil)) (tower (G3 p) rows3 58 5) { toHp := cells3 H js bars, loc := [("text", .str (txt ls))], cel := cels N, tbl := some (0, lq) }) Q := by
  subst hN
  have o0 : ∀ j, j < H.nxt → (cells3 H js bars).obj j = H.obj j := fun j hj => by
    show (if j = H.nxt + 1 + 1 then _ else if j = H.nxt + 1 then _ else if j = H.nxt then _ else H.obj j) = _
    rw [if_neg (by omega), if_neg (by omega), if_neg (by omega)]
  have o1 : (cells3 H js bars).obj H.nxt = some (.cell (some (.ref js))) := by
    show (if H.nxt = H.nxt + 1 + 1 then _ else if H.nxt = H.nxt + 1 then _ else if H.nxt = H.nxt then _ else H.obj H.nxt) = _
    rw [if_neg (by omega), if_neg (by omega), if_pos rfl]
  have o2 : (cells3 H js bars).obj (H.nxt + 1) = some (.cell (some (.list (bars.map .int)))) := by
    show (if H.nxt + 1 = H.nxt + 1 + 1 then _ else if H.nxt + 1 = H.nxt + 1 then _ else _) = _
    rw [if_neg (by omega), if_pos rfl]
  have o3 : (cells3 H js bars).obj (H.nxt + 2) = some (.cell none) := by
    show (if H.nxt + 2 = H.nxt + 1 + 1 then _ else _) = _
    rw [if_pos rfl]
  have nx : (cells3 H js bars).nxt = H.nxt + 3 := rfl
  generalize cells3 H js bars = K at o0 o1 o2 o3 nx
  let σ : St := { toHp := K, loc := [("text", .str (txt ls))], cel := cels H.nxt, tbl := some (0, lq) }
  have he : ev (tower (G3 p) rows3 58 5).toCx (.list .nil) σ = .ok (.list []) σ := by
    simp only [evq_none, evq_bool, evq_int, evq_str, evq_var, evq_cv, evq_glob, evq_bin, evq_neg, evq_not, evq_cmp, evq_and, evq_or, evq_ite, evq_idx, evq_slc, evq_attr, evq_list, evq_tup, evq_nil, evq_cons, evq_call, evq_meth, evq_comp, evq_lam, evq_named, Rs.bind, argR]; exact fits_ok (by decide)
  have lc : (σ.add (.list [])).cel.lookup ("asked" : PySem.Str) = some (H.nxt + 2) := lk_eq
  have oc : (σ.add (.list [])).obj (H.nxt + 2) = some (.cell none) := by
    show (if H.nxt + 2 = K.nxt then _ else K.obj (H.nxt + 2)) = _
    rw [if_neg (by omega)]; exact o3
  have hs : (σ.add (.list [])).setC "asked" (.ref σ.nxt) = some ((σ.add (.list [])).put (H.nxt + 2) (.cell (some (.ref (H.nxt + 3))))) := by
    unfold St.setC
    rw [lc]
    dsimp only
    rw [oc]
    dsimp only
    rw [show σ.nxt = H.nxt + 3 from nx]
    rfl
  refine gd_ownC he hs (h _ ⟨fun j hj => put_ne (by omega) ?_, put_ne (by omega) ?_, put_ne (by omega) ?_, put_eq, put_ne (by omega) ?_, rfl, rfl, lk_eq⟩ ?_)
  · show (if j = K.nxt then _ else K.obj j) = _
    rw [if_neg (by omega)]; exact o0 j hj
  · show (if H.nxt = K.nxt then _ else K.obj H.nxt) = _
    rw [if_neg (by omega)]; exact o1
  · show (if H.nxt + 1 = K.nxt then _ else K.obj (H.nxt + 1)) = _
    rw [if_neg (by omega)]; exact o2
  · show (if H.nxt + 3 = K.nxt then _ else K.obj (H.nxt + 3)) = _
    rw [if_pos nx.symm]
  · show K.nxt + 1 = _
    rw [nx]
end
end Mine.L03
end
noncomputable section
set_option Elab.async false
set_option linter.all false
set_option maxRecDepth 100000
set_option maxHeartbeats 4000000
namespace Mine.L03
open PySem PySem.W PyProof.Rows Mine Mine.Re Mine.Tx

theorem Pre3.step {H : Hp} {N js : Nat} {bars : List Int} {ls : List (List Nat)} {σ σ' : St} (h : Pre3 H N js bars ls σ) (ho : ∀ j, j < N + 4 → σ'.obj j = σ.obj j) (h1 : σ'.cel = σ.cel) (h2 : σ'.tbl = σ.tbl) (h3 : σ'.loc.lookup ("text" : PySem.Str) = some (.str (txt ls))) : Pre3 H N js bars ls σ' :=
  ⟨fun j hj => (ho j (by omega)).trans (h.low j hj), (ho _ (by omega)).trans h.c0, (ho _ (by omega)).trans h.c1, (ho _ (by omega)).trans h.c2, (ho _ (by omega)).trans h.c3, h1.trans h.cel, h2.trans h.tbl, h3⟩

theorem ev_call1 {cx : Cx} {σ : St} {f a b : X} {vf va vb : V} {r : Rs V} (h1 : ev cx f σ = .ok vf σ) (h2 : ev cx a σ = .ok va σ) (h3 : ev cx b σ = .ok vb σ) (h : (cx.app vf [va, vb] σ.toHp).lift σ = r) : ev cx (.call f (.cons a (.cons b .nil))) σ = r := by
  simp only [evq_none, evq_bool, evq_int, evq_str, evq_var, evq_cv, evq_glob, evq_bin, evq_neg, evq_not, evq_cmp, evq_and, evq_or, evq_ite, evq_idx, evq_slc, evq_attr, evq_list, evq_tup, evq_nil, evq_cons, evq_call, evq_meth, evq_comp, evq_lam, evq_named, h1, h2, h3, Rs.bind, argR]; exact h
theorem ev_meth1 {cx : Cx} {σ : St} {o a : X} {m : PySem.Str} {vo va vf v0 : V} {r : Rs V} (h1 : ev cx o σ = .ok vo σ) (hg : cx.get vo m σ.toHp = some (vf, [v0])) (h2 : ev cx a σ = .ok va σ) (h : (cx.app vf [v0, va] σ.toHp).lift σ = r) : ev cx (.meth o m (.cons a .nil)) σ = r := by
  simp only [evq_none, evq_bool, evq_int, evq_str, evq_var, evq_cv, evq_glob, evq_bin, evq_neg, evq_not, evq_cmp, evq_and, evq_or, evq_ite, evq_idx, evq_slc, evq_attr, evq_list, evq_tup, evq_nil, evq_cons, evq_call, evq_meth, evq_comp, evq_lam, evq_named, h1, Rs.bind, hg, h2, argR, List.cons_append, List.nil_append]; exact h
theorem ev_lam {cx : Cx} {σ : St} {ps : List PySem.Str} {b : X} {k : Nat} {q : PySem.Str} (h : σ.tbl = some (k, q)) (ho : σ.obj k = some (.tab q)) : ev cx (.lam ps b) σ = .ok (.clo ps b σ.cel) σ := by
  show lamR σ _ = _
  unfold lamR
  rw [h]
  dsimp only
  rw [ho]
  exact if_pos rfl

section
variable {p : Params} {js : Nat} {sts bars : List Int} {ls : List (List Nat)}
noncomputable def make_X : X := .call (.glob "Parser") (.cons (.int 4) (.cons (.int 8) .nil))
noncomputable def code_X : X := .meth (.var "parser") "set_code" (.cons (.var "text") .nil)
noncomputable def find_X : X := .meth (.var "parser") "find_good_parse_start" (.cons (.lam ["place"] testX) .nil)
noncomputable def end_S : S := (.seq (.ite (.cmp .Is (.var "told") .none) (.seq (.ret (.list (.cons (.cv "asked") (.cons .none .nil)))) .nil) .nil) (.seq (.ret (.list (.cons (.cv "asked") (.cons (.meth (.bin .Add (.cv "starts") (.list (.cons (.var "told") .nil))) "index" (.cons (.var "told") .nil)) .nil)))) .nil))
theorem run_eq : run_S = .seq (.ownC "asked" (.list .nil)) (.seq (.asg "parser" make_X) (.seq (.expr code_X) (.seq (.asg "told" find_X) end_S))) := rfl

theorem end_run {σ : St} {N : Nat} {o : Option Nat} {m : List V} (hc : σ.cel = cels N) (h2 : σ.obj (N + 2) = some (.cell (some (.ref (N + 3))))) (h0 : σ.obj N = some (.cell (some (.ref js)))) (hs : σ.obj js = some (.list (sts.map .int))) (hl : sts.length < 1000) (ht : σ.loc.lookup ("told" : PySem.Str) = some (rowV ls o)) :
    ex end_S (tower (G3 p) rows3 58 5) σ = .ok (.ret (.list [.ref (N + 3), toldV ls sts o])) σ := by
  have a1 := ev_cv (cx := (tower (G3 p) rows3 58 5).toCx) (σ := σ) (x := "asked") (k := N + 2) (by rw [hc]; exact lk_eq) h2
  have a2 := ev_cv (cx := (tower (G3 p) rows3 58 5).toCx) (σ := σ) (x := "starts") (k := N) (by rw [hc]; exact lk_ne (by decide) (lk_ne (by decide) lk_eq)) h0
  have a3 := ev_var (cx := (tower (G3 p) rows3 58 5).toCx) ht
  unfold end_S
  cases o with
  | none =>
    have e1 := ev_isnone (b := true) a3 rfl
    refine seq_ret ?_
    refine (Rs.bind_ok e1 : _).trans ?_
    exact seq_ret (ret_ok (ev_list2 a1 rfl))
  | some r =>
    have e1 := ev_isnone (b := false) a3 rfl
    refine seq_next (σ₁ := σ) (Rs.bind_ok e1 : _) ?_
    exact seq_ret (ret_ok (ev_list2 a1 (ev_index a2 hs hl a3)))

theorem run_rest {H : Hp} {N : Nat} {σ : St} (h : Pre3 H N js bars ls σ) (hn : σ.nxt = N + 4) (hjs : js < N) (h0N : 0 < N) (h0 : H.obj 0 = some (.tab lq)) (hsj : H.obj js = some (.list (sts.map .int)))
    (hL : Lines ls) (hsz : (flat ls).length ≤ sizeLine) (hls : ls.length < 900) (hl : sts.length < 1000) (hb : bars.length = sts.length + 1) :
    Gd (ex (.seq (.asg "parser" make_X) (.seq (.expr code_X) (.seq (.asg "told" find_X) end_S))) (tower (G3 p) rows3 58 5) σ) fun f σ' =>
      f = .ret (.list [.ref (N + 3), toldV ls sts (findG ls (testF sts bars) []).1]) ∧ (∀ j, j < N → σ'.obj j = H.obj j) ∧ σ'.obj (N + 3) = some (.list (natsV (findG ls (testF sts bars) []).2)) ∧ σ'.nxt = N + 6 := by
  -- the parser
  obtain ⟨H1, e1, k1, n1, o1⟩ := make_run (pg3 (p := p)) 3 σ
  have g1 : ev (tower (G3 p) rows3 58 5).toCx (.glob "Parser") σ = .ok (.top (.ref 152)) σ := by
    have : (tower (G3 p) rows3 58 5).gl "Parser" = some (.top (.ref 152)) := by rw [tower_gl]; rfl
    simp only [evq_none, evq_bool, evq_int, evq_str, evq_var, evq_cv, evq_glob, evq_bin, evq_neg, evq_not, evq_cmp, evq_and, evq_or, evq_ite, evq_idx, evq_slc, evq_attr, evq_list, evq_tup, evq_nil, evq_cons, evq_call, evq_meth, evq_comp, evq_lam, evq_named, this]
  have v1 : ev (tower (G3 p) rows3 58 5).toCx make_X σ = .ok (.ref (σ.nxt + 1)) { σ with toHp := H1 } := ev_call1 g1 rfl rfl e1
  refine gd_seq (gd_asg v1 ?_)
  rw [hn] at k1 n1 o1 ⊢
  have p1 : Pre3 H N js bars ls (({ σ with toHp := H1 } : St).set "parser" (.ref (N + 4 + 1))) := h.step (fun j hj => o1 j hj) rfl rfl (look_ne (by decide) h.text)
  have q1 : (({ σ with toHp := H1 } : St).set "parser" (.ref (N + 4 + 1))).loc.lookup ("parser" : PySem.Str) = some (.ref (N + 4 + 1)) := look_eq
  have k1' : Has (G3 p) (({ σ with toHp := H1 } : St).set "parser" (.ref (N + 4 + 1))).toHp (N + 4 + 1) (N + 4) fs0 := k1
  have n1' : (({ σ with toHp := H1 } : St).set "parser" (.ref (N + 4 + 1))).nxt = N + 4 + 2 := n1
  generalize ({ σ with toHp := H1 } : St).set "parser" (.ref (N + 4 + 1)) = σ1 at p1 q1 k1' n1' ⊢
  -- its text
  obtain ⟨H2, e2, k2, n2, o2⟩ := code_run (ls := ls) (pg3 (p := p)) 3 σ1 hsz k1'
  have g2 := meth_has (rows := rows3) (fI := 58) k1' (m := "set_code") (g := 65) rfl (pg3 (p := p)).mC 5
  have v2 : ev (tower (G3 p) rows3 58 5).toCx code_X σ1 = .ok .none { σ1 with toHp := H2 } := ev_meth1 (ev_var q1) g2 (ev_var p1.text) e2
  refine gd_seq (gd_expr v2 ?_)
  have p2 : Pre3 H N js bars ls { σ1 with toHp := H2 } := p1.step (fun j hj => o2 j (by omega)) rfl rfl p1.text
  have q2 : ({ σ1 with toHp := H2 } : St).loc.lookup ("parser" : PySem.Str) = some (.ref (N + 4 + 1)) := q1
  have k2' : Has (G3 p) ({ σ1 with toHp := H2 } : St).toHp (N + 4 + 1) (N + 4) (fs1 (txt ls)) := k2
  have n2' : ({ σ1 with toHp := H2 } : St).nxt = N + 4 + 2 := n2.trans n1'
  generalize ({ σ1 with toHp := H2 } : St) = σ2 at p2 q2 k2' n2' ⊢
  -- the search
  have R : Run3 σ2.toHp N js sts bars := ⟨p2.c0, p2.c1, p2.c2, (p2.low js hjs).trans hsj, hjs⟩
  have T := test_ok (p := p) (n := 1) R hl hb
  have hI : AskI σ2.toHp N (ls.length + 1 + 5) [] σ2.toHp := by
    refine ⟨by show ls.length + 1 + 5 + 0 < 1000; omega, ?_⟩
    have : (fun j => if j = N + 3 then some (O.list (natsV [])) else σ2.obj j) = σ2.obj := by
      funext j
      by_cases hj : j = N + 3
      · rw [if_pos hj, hj]; exact p2.c3.symm
      · rw [if_neg hj]
    show σ2.toHp = { σ2.toHp with obj := fun j => if j = N + 3 then some (O.list (natsV [])) else σ2.obj j }
    rw [this]
  obtain ⟨H3, e3, i3⟩ := find_call (σ := σ2) (pg3 (p := p)) 3 T hL hsz (by omega) k2' hI
  have g3 := meth_has (rows := rows3) (fI := 58) k2' (m := "find_good_parse_start") (g := 72) rfl (pg3 (p := p)).mF 5
  have l3 : ev (tower (G3 p) rows3 58 5).toCx (.lam ["place"] testX) σ2 = .ok (.clo ["place"] testX (cels N)) σ2 := by
    rw [← p2.cel]; exact ev_lam p2.tbl ((p2.low 0 h0N).trans h0)
  have v3 : ev (tower (G3 p) rows3 58 5).toCx find_X σ2 = .ok (rowV ls (findG ls (testF sts bars) []).1) { σ2 with toHp := H3 } := ev_meth1 (ev_var q2) g3 l3 e3
  refine gd_seq (gd_asg v3 ?_)
  generalize findG ls (testF sts bars) [] = R3 at i3 ⊢
  obtain ⟨i4, rfl⟩ := i3
  have o4 : ∀ j, j ≠ N + 3 → (({ σ2 with toHp := hput σ2.toHp (N + 3) (.list (natsV R3.2)) } : St).set "told" (rowV ls R3.1)).obj j = σ2.obj j := fun j hj => if_neg hj
  have o5 : (({ σ2 with toHp := hput σ2.toHp (N + 3) (.list (natsV R3.2)) } : St).set "told" (rowV ls R3.1)).obj (N + 3) = some (.list (natsV R3.2)) := if_pos rfl
  have n5 : (({ σ2 with toHp := hput σ2.toHp (N + 3) (.list (natsV R3.2)) } : St).set "told" (rowV ls R3.1)).nxt = N + 6 := n2'
  have l5 : (({ σ2 with toHp := hput σ2.toHp (N + 3) (.list (natsV R3.2)) } : St).set "told" (rowV ls R3.1)).loc.lookup ("told" : PySem.Str) = some (rowV ls R3.1) := look_eq
  have c5 : (({ σ2 with toHp := hput σ2.toHp (N + 3) (.list (natsV R3.2)) } : St).set "told" (rowV ls R3.1)).cel = cels N := p2.cel
  generalize ({ σ2 with toHp := hput σ2.toHp (N + 3) (.list (natsV R3.2)) } : St).set "told" (rowV ls R3.1) = σ3 at o4 o5 n5 l5 c5 ⊢
  exact ⟨_, _, end_run (m := []) c5 ((o4 _ (by omega)).trans p2.c2) ((o4 _ (by omega)).trans p2.c0) ((o4 _ (by omega)).trans R.st) hl l5, rfl, fun j hj => (o4 j (by omega)).trans (p2.low j hj), o5, n5⟩

/-- _law_run is called -/
theorem run_call {σ : St} {N : Nat} (hn : σ.nxt = N) (hjs : js < N) (h0N : 0 < N) (h0 : σ.obj 0 = some (.tab lq)) (hsj : σ.obj js = some (.list (sts.map .int)))
    (hL : Lines ls) (hsz : (flat ls).length ≤ sizeLine) (hls : ls.length < 900) (hl : sts.length < 1000) (hb : bars.length = sts.length + 1) :
    ∃ H', ((tower (G3 p) rows3 58 6).app (.top (.ref 184)) [.str (txt ls), .ref js, .list (bars.map .int)] σ.toHp).lift σ = .ok (.list [.ref (N + 3), toldV ls sts (findG ls (testF sts bars) []).1]) { σ with toHp := H' } ∧
      (∀ j, j < N → H'.obj j = σ.obj j) ∧ H'.obj (N + 3) = some (.list (natsV (findG ls (testF sts bars) []).2)) ∧ H'.nxt = N + 6 := by
  have hrow : rows3.lookup 184 = some (scRun, (["text", "starts", "bars"] : List PySem.Str), run_S) := by rfl
  have key : Gd (ex run_S (tower (G3 p) rows3 58 5) { toHp := cells3 σ.toHp js bars, loc := [("text", .str (txt ls))], cel := cels σ.nxt, tbl := some (0, lq) }) fun f σ' =>
      f = .ret (.list [.ref (N + 3), toldV ls sts (findG ls (testF sts bars) []).1]) ∧ (∀ j, j < N → σ'.obj j = σ.obj j) ∧ σ'.obj (N + 3) = some (.list (natsV (findG ls (testF sts bars) []).2)) ∧ σ'.nxt = N + 6 := by
    rw [run_eq, hn]
    refine gd_seq (run_start hn fun σ1 h1 n1 => ?_)
    exact run_rest h1 n1 hjs h0N h0 hsj hL hsz hls hl hb
  obtain ⟨f, σ', e, rfl, h1, h2, h3⟩ := key
  refine ⟨σ'.toHp, ?_, h1, h2, h3⟩
  rw [tower_r 4 184 (by show (184 : Nat) ≠ 152; decide) (by show (184 : Nat) ≠ 44; decide)]
  unfold rowRun
  rw [hrow]
  dsimp only
  rw [runFn_eq rfl, show tbFor (G3 p).tb 184 = some lq from rfl, entryRun, e]
  rfl
end
end Mine.L03
end
noncomputable section
set_option Elab.async false
set_option linter.all false
set_option maxRecDepth 100000
set_option maxHeartbeats 4000000
namespace Mine.L03
open PySem PySem.W PyProof.Rows Mine Mine.Re Mine.Tx

/-! ## both texts are searched alike -/
noncomputable def stsOf (ls : List (List Nat)) (ρ : Nat → Nat) (n : Nat) : List Int := (List.range n).map fun i => (stA ls (ρ i) : Int)
theorem sts_len (ls : List (List Nat)) (ρ : Nat → Nat) (n : Nat) : (stsOf ls ρ n).length = n := by unfold stsOf; rw [List.length_map, List.length_range]
theorem posB_sts (xs : List Int) (n : Nat) : posB xs n = (stsOf (bareLs' xs) id n).map .int := by unfold posB stsOf; rw [List.map_map]; rfl
theorem posR_sts (xs : List Int) (n : Nat) : posR xs n = (stsOf (richLs xs) (rho xs) n).map .int := by unfold posR stsOf; rw [List.map_map]; rfl
noncomputable def barsI (xs : List Int) : List Int := (xs.map fun x => (x.fdiv 4).fmod 2) ++ [1]
theorem barsV_I (xs : List Int) : barsV xs = (barsI xs).map .int := by unfold barsV barsI; rw [List.map_append, List.map_map]; rfl
theorem barsI_len (xs : List Int) : (barsI xs).length = xs.length + 1 := by unfold barsI; rw [List.length_append, List.length_map, List.length_singleton]
theorem barsI_at {xs : List Int} {i : Nat} (hi : i < xs.length) : (barsI xs).getD i 0 = ((xs.getD i 0).fdiv 4).fmod 2 := by
  unfold barsI
  rw [List.getD_eq_getElem?_getD, List.getElem?_append_left (by rw [List.length_map]; exact hi), List.getElem?_map, List.getD_eq_getElem?_getD, List.getElem?_eq_getElem hi]
  rfl
theorem barsI_01 {xs : List Int} {i : Nat} (hi : i < xs.length) : (((barsI xs).getD i 0 == 1) = Bf xs i) ∧ (((barsI xs).getD i 0 == 0) = !Bf xs i) := by
  rw [barsI_at hi]
  have h := fmod_lt ((xs.getD i 0).fdiv 4) (n := 2) (by decide)
  unfold Bf bB
  refine ⟨rfl, ?_⟩
  rcases (show ((xs.getD i 0).fdiv 4).fmod 2 = 0 ∨ ((xs.getD i 0).fdiv 4).fmod 2 = 1 by omega) with q | q <;> rw [q] <;> rfl

section
variable {ls : List (List Nat)} {W K : Nat → Bool} {n : Nat} {ρ : Nat → Nat}
theorem emb_lt (E : Emb ls W K n ρ) {i j : Nat} (h : i < j) (hj : j < n) : stA ls (ρ i) < stA ls (ρ j) := by
  have h1 := E.inc i j h hj
  have h2 := E.lt i (by omega)
  have h3 := stA_succ h2
  have h4 := stA_mono (ls := ls) (show ρ i + 1 ≤ ρ j by omega)
  omega
theorem ix_row (E : Emb ls W K n ρ) {i : Nat} (hi : i < n) : ixOf (stsOf ls ρ n) (stA ls (ρ i)) = i := by
  unfold ixOf
  have hlen : (stsOf ls ρ n ++ [(stA ls (ρ i) : Int)]).length = n + 1 := by rw [List.length_append, sts_len, List.length_singleton]
  have at_ : ∀ (j : Nat) (hj : j < n) (h : j < (stsOf ls ρ n ++ [(stA ls (ρ i) : Int)]).length), (stsOf ls ρ n ++ [(stA ls (ρ i) : Int)])[j] = (stA ls (ρ j) : Int) := fun j hj h => by
    rw [List.getElem_append_left (by rw [sts_len]; exact hj)]
    simp [stsOf]
  show List.findIdx _ _ = _
  rw [List.findIdx_eq (by omega)]
  refine ⟨?_, fun j hj => ?_⟩
  · rw [at_ i hi]; simp
  · rw [at_ j (by omega)]
    have := emb_lt E hj hi
    rw [beq_eq_false_iff_ne]
    omega
theorem test_row (E : Emb ls W K n ρ) {xs : List Int} (hn : xs.length = n) {i : Nat} (m : List Nat) (hi : i < n) : testF (stsOf ls ρ n) (barsI xs) (stA ls (ρ i)) m = (Bf xs i, m ++ [i]) := by
  unfold testF
  rw [ix_row E hi, (barsI_01 (hn.symm ▸ hi)).1]
end

noncomputable def tA : Option Nat → V
  | none => .none
  | some i => .int (i : Nat)
noncomputable def ans (xs : List Int) : Option Nat × List Nat := findA (Wf xs) (Kf xs) (Bf xs) xs.length []
structure Ans (xs : List Int) : Prop where
  rows : ∀ r ∈ (ans xs).2, r < xs.length
  last : lastFree (Bf xs) (ans xs).2 = (ans xs).1
  any : (ans xs).2 = [] ↔ ∀ i, i < xs.length → Wf xs i = false
theorem ans_ok (xs : List Int) : Ans xs := by
  obtain ⟨h1, h2, h3⟩ := findA_spec (W := Wf xs) (K := Kf xs) (B := Bf xs) xs.length
  exact ⟨fun r hr => (h1 r hr).1, h2, h3⟩
theorem ans_lt {xs : List Int} {r : Nat} (h : (ans xs).1 = some r) : r < xs.length := by
  have h2 := (ans_ok xs).last
  rw [h] at h2
  exact (ans_ok xs).rows r (List.mem_filter.mp (List.mem_of_getLast? h2)).1

theorem told_emb {ls : List (List Nat)} {xs : List Int} {ρ : Nat → Nat} (E : Emb ls (Wf xs) (Kf xs) xs.length ρ) :
    toldV ls (stsOf ls ρ xs.length) (findG ls (testF (stsOf ls ρ xs.length) (barsI xs)) []).1 = tA (ans xs).1 ∧ (findG ls (testF (stsOf ls ρ xs.length) (barsI xs)) []).2 = (ans xs).2 := by
  have h := find_emb (B := Bf xs) E (test := testF (stsOf ls ρ xs.length) (barsI xs)) (fun i m hi => test_row E rfl m hi)
  rw [h]
  refine ⟨?_, rfl⟩
  show toldV ls _ ((ans xs).1.map ρ) = _
  cases ha : (ans xs).1 with
  | none => rfl
  | some r =>
    show V.int (ixOf (stsOf ls ρ xs.length) (stA ls (ρ r)) : Nat) = _
    rw [ix_row E (ans_lt ha)]; rfl

theorem bare_lines (xs : List Int) : Lines (bareLs' xs) := fun l hl => by
  obtain ⟨x, _, rfl⟩ := List.mem_map.mp hl
  exact (bare_ok x).1.nl
theorem rich_lines : ∀ xs : List Int, Lines (richLs xs)
  | [], l, hl => by cases hl
  | x :: r, l, hl => by
    have hl' : l ∈ aheadLs x ++ rowL x :: richLs r := hl
    rcases List.mem_append.mp hl' with h | h
    · exact ((ahead_ok x).1 l h).nl
    · rcases List.mem_cons.mp h with h | h
      · rw [h]; exact (row_ok x).1.nl
      · exact rich_lines r l h
theorem rich_count : ∀ xs : List Int, (richLs xs).length ≤ 2 * xs.length
  | [] => Nat.le_refl _
  | x :: r => by
    have : (aheadLs x).length ≤ 1 := by
      unfold aheadLs
      split
      · exact Nat.le_refl _
      · split
        · exact Nat.le_refl _
        · exact Nat.zero_le _
    have ih := rich_count r
    show (aheadLs x ++ rowL x :: richLs r).length ≤ _
    rw [List.length_append, List.length_cons, List.length_cons]
    omega
end Mine.L03
end
noncomputable section
set_option Elab.async false
set_option linter.all false
set_option maxRecDepth 100000
set_option maxHeartbeats 4000000
namespace Mine.L03
open PySem PySem.W PyProof.Rows Mine Mine.Re Mine.Tx

/-! ## plain data, compared -/
theorem mapM_nats {H : Hp} {k : Nat} : ∀ (m : List Nat), (natsV m).mapM (dat H (k + 1)) = some (m.map fun i => PyData.int (i : Nat))
  | [] => rfl
  | a :: r => by
    have ih := mapM_nats (H := H) (k := k) r
    unfold natsV at ih ⊢
    rw [List.map_cons, List.mapM_cons, ih]
    rfl
theorem dat_ref {H : Hp} {j k : Nat} {m : List Nat} (h : H.obj j = some (.list (natsV m))) : dat H (k + 2) (.ref j) = some (.list (m.map fun i => PyData.int (i : Nat))) := by
  show (match H.obj j with | some (.list xs) => (xs.mapM (dat H (k + 1))).map PyData.list | _ => none) = _
  rw [h]
  show ((natsV m).mapM (dat H (k + 1))).map PyData.list = _
  rw [mapM_nats]; rfl
noncomputable def tD : Option Nat → PyData
  | none => .none
  | some i => .int (i : Nat)
theorem dat_tA {H : Hp} {k : Nat} (o : Option Nat) : dat H (k + 1) (tA o) = some (tD o) := by cases o <;> rfl
theorem eqv_nats : ∀ m : List Nat, PyData.eqvAll (m.map fun i => PyData.int (i : Nat)) (m.map fun i => PyData.int (i : Nat)) = true
  | [] => rfl
  | a :: r => by
    show (((a : Int) == (a : Int)) && PyData.eqvAll (r.map _) (r.map _)) = true
    rw [beq_self_eq_true, Bool.true_and]; exact eqv_nats r
theorem eqv_tD (o : Option Nat) : PyData.eqv (tD o) (tD o) = true := by
  cases o with
  | none => rfl
  | some i => exact beq_self_eq_true (i : Int)
theorem eqB_of {H : Hp} {a b : V} {x y : PyData} {r : Bool} (h1 : dat H 8 a = some x) (h2 : dat H 8 b = some y) (h : PyData.eqv x y = r) : eqB H a b = some r := by
  unfold eqB; rw [h1, h2]; exact congrArg some h
theorem cmp_eq {H : Hp} {a b : V} {r : Bool} (h : eqB H a b = some r) : cmpV H .Eq a b = .ok (.bool r) := by
  show boolO (eqB H a b) = _; rw [h]; rfl
theorem cmp_ne {H : Hp} {a b : V} {r : Bool} (h : eqB H a b = some r) : cmpV H .NotEq a b = .ok (.bool !r) := by
  show boolO ((eqB H a b).map _) = _; rw [h]; rfl
theorem dat_pair {H : Hp} {j k : Nat} {m : List Nat} {o : Option Nat} (h : H.obj j = some (.list (natsV m))) : dat H (k + 3) (.list [.ref j, tA o]) = some (.list [.list (m.map fun i => PyData.int (i : Nat)), tD o]) := by
  show (([.ref j, tA o] : List V).mapM (dat H (k + 2))).map PyData.list = _
  rw [List.mapM_cons, List.mapM_cons, dat_ref h, dat_tA]
  rfl
theorem eq_pairs {H : Hp} {i j : Nat} {m : List Nat} {o : Option Nat} (h1 : H.obj i = some (.list (natsV m))) (h2 : H.obj j = some (.list (natsV m))) : cmpV H .NotEq (.list [.ref i, tA o]) (.list [.ref j, tA o]) = .ok (.bool false) := by
  refine cmp_ne (r := true) (eqB_of (dat_pair h1) (dat_pair h2) ?_)
  show (PyData.eqvAll (m.map _) (m.map _) && (PyData.eqv (tD o) (tD o) && true)) = true
  rw [eqv_nats, eqv_tD]; rfl
theorem eq_tA {H : Hp} (o : Option Nat) : cmpV H .Eq (tA o) (tA o) = .ok (.bool true) := cmp_eq (eqB_of (dat_tA o) (dat_tA o) (eqv_tD o))
theorem eq_nil {H : Hp} {j : Nat} {m : List Nat} (h : H.obj j = some (.list (natsV m))) : cmpV H .Eq (.ref j) (.list []) = .ok (.bool m.isEmpty) := by
  refine cmp_eq (eqB_of (y := .list []) (dat_ref h) rfl ?_)
  cases m <;> rfl
theorem mapM_ints {H : Hp} {k : Nat} : ∀ (l : List Int), (l.map V.int).mapM (dat H (k + 1)) = some (l.map PyData.int)
  | [] => rfl
  | a :: r => by
    rw [List.map_cons, List.mapM_cons, mapM_ints r]; rfl
theorem eq_nilI {H : Hp} {l : List Int} : cmpV H .Eq (.list (l.map .int)) (.list []) = .ok (.bool l.isEmpty) := by
  refine cmp_eq (eqB_of (x := .list (l.map PyData.int)) (y := .list []) ?_ rfl ?_)
  · show ((l.map V.int).mapM (dat H 7)).map PyData.list = _
    rw [mapM_ints]; rfl
  · cases l <;> rfl
theorem eq_bools {H : Hp} {a b : Bool} : cmpV H .Eq (.bool a) (.bool b) = .ok (.bool (a == b)) := rfl

/-! ## the free rows -/
section
variable {p : Params} {n : Nat}
noncomputable def free_X : X := (.bin .Add (.list (.cons .none .nil)) (.comp (.var "row") "row" (.var "asked") (.cmp .Eq (.idx (.cv "bars") (.var "row")) (.int 0))))
noncomputable def freeR (xs : List Int) : List Nat := (ans xs).2.filter fun r => !Bf xs r
theorem free_ev {cx : Sx} {σ : St} {xs : List Int} {j kb : Nat} (hn : xs.length ≤ 8) (hm : (ans xs).2.length < 1000) (ha : σ.loc.lookup ("asked" : PySem.Str) = some (.ref j)) (hj : σ.obj j = some (.list (natsV (ans xs).2))) (hc : σ.cel.lookup ("bars" : PySem.Str) = some kb) (hb : σ.obj kb = some (.cell (some (.list ((barsI xs).map .int))))) :
    ev cx.toCx free_X σ = .ok (.list (.none :: natsV (freeR xs))) σ := by
  have key := ev_comp_pure (cx := cx.toCx) (σ := σ) (elt := .var "row") (it := .var "asked") (cond := .cmp .Eq (.idx (.cv "bars") (.var "row")) (.int 0)) (x := "row") (vi := .ref j) (xs := natsV (ans xs).2)
    (fun v => match v with | .int r => if Bf xs r.toNat = true then none else some (.int r) | _ => none) (ev_var ha) (by show (match σ.obj j with | some (.list xs) => some xs | _ => none) = _; rw [hj]) ?_ ?_
  · have e : (natsV (ans xs).2).filterMap (fun v => match v with | .int r => if Bf xs r.toNat = true then none else some (V.int r) | _ => none) = natsV (freeR xs) := by
      unfold freeR natsV
      rw [List.filterMap_map]
      generalize (ans xs).2 = l
      induction l with
      | nil => rfl
      | cons a r ih =>
        cases hb : Bf xs a with
        | true => rw [List.filter_cons_of_neg (by rw [hb]; decide), List.filterMap_cons_none (by show (if Bf xs a = true then none else some (V.int (a : Int))) = none; rw [if_pos hb]), ih]
        | false => rw [List.filter_cons_of_pos (by rw [hb]; decide), List.filterMap_cons_some (b := V.int (a : Int)) (by show (if Bf xs a = true then none else some (V.int (a : Int))) = _; rw [if_neg (by rw [hb]; decide)]), ih]; rfl
    rw [e] at key
    have e3 : ev cx.toCx (.list (.cons .none .nil)) σ = .ok (.list [.none]) σ := by
      simp only [evq_none, evq_bool, evq_int, evq_str, evq_var, evq_cv, evq_glob, evq_bin, evq_neg, evq_not, evq_cmp, evq_and, evq_or, evq_ite, evq_idx, evq_slc, evq_attr, evq_list, evq_tup, evq_nil, evq_cons, evq_call, evq_meth, evq_comp, evq_lam, evq_named, Rs.bind, argR, fits_ok (show ([.none] : List V).length ≤ 100 by decide)]
    have hl : (freeR xs).length ≤ (ans xs).2.length := List.length_filter_le _ _
    have e2 : binV σ.toHp .Add (.list [.none]) (.list (natsV (freeR xs))) = .ok (.list ([.none] ++ natsV (freeR xs))) := bAddL (by rw [sizeLine_eq]; unfold natsV; rw [List.length_map, List.length_singleton]; omega)
    have e4 : ev cx.toCx free_X σ = (binV σ.toHp .Add (.list [.none]) (.list (natsV (freeR xs)))).st σ := (Rs.bind_ok e3 : _).trans (Rs.bind_ok key : _)
    rw [e4, e2]; rfl
  · intro y hy
    obtain ⟨r, hr, rfl⟩ := List.mem_map.mp hy
    have hrn := (ans_ok xs).rows r hr
    have lk : (⟨σ.toHp, [(("row" : PySem.Str), V.int (r : Nat))], σ.cel, none⟩ : St).loc.lookup ("row" : PySem.Str) = some (.int (r : Nat)) := lk_eq
    have hx := @idx_bar σ.toHp (barsI xs) r (by rw [barsI_len]; omega) (by omega)
    have e1 := ev_is1 (ev_idx (cx := cx.toCx) (σ := ⟨σ.toHp, [(("row" : PySem.Str), V.int (r : Nat))], σ.cel, none⟩) (ev_cv (x := "bars") hc hb) (ev_var lk) hx) 0
    rw [Rs.bind_ok e1, (barsI_01 hrn).2]
    unfold condO
    show (match (some (!Bf xs r) : Option Bool) with | some true => _ | some false => _ | none => _) = Rs.ok (if Bf xs (r : Int).toNat = true then none else some (V.int (r : Int))) _
    rw [Int.toNat_natCast]
    cases Bf xs r with
    | true => rfl
    | false => exact (Rs.bind_ok (ev_var lk) : _)
  · refine Nat.le_trans (List.length_filterMap_le _ _) ?_
    rw [sizeLine_eq]; unfold natsV; rw [List.length_map]; omega

theorem free_last (H : Hp) (xs : List Int) : idxV H (.list (.none :: natsV (freeR xs))) (.int (-1)) = .ok (tA (ans xs).1) := by
  have hl := (ans_ok xs).last
  have hl' : (freeR xs).getLast? = (ans xs).1 := hl
  rw [← hl']
  generalize freeR xs = l
  rcases List.eq_nil_or_concat l with rfl | ⟨a, b, rfl⟩
  · exact idx_neg1 (xs := []) rfl rfl
  · rw [List.concat_eq_append, List.getLast?_concat]
    refine idx_neg1 (xs := .none :: natsV a) (y := .int (b : Nat)) rfl ?_
    show some (V.none :: natsV (a ++ [b])) = _
    unfold natsV; rw [List.map_append]; rfl

noncomputable def words_X : X := (.comp (.var "x") "x" (.var "numbers") (.cmp .Eq (.bin .Mod (.var "x") (.int 2)) (.int 1)))
theorem words_ev {cx : Sx} {xs : List Int} (hn : xs.length ≤ 8) {σ : St} (h : σ.loc.lookup ("numbers" : PySem.Str) = some (.list (xs.map .int))) : ev cx.toCx words_X σ = .ok (.list ((xs.filter wB).map .int)) σ := by
  have key := ev_comp_pure (cx := cx.toCx) (σ := σ) (elt := .var "x") (it := .var "numbers") (cond := .cmp .Eq (.bin .Mod (.var "x") (.int 2)) (.int 1)) (x := "x") (vi := .list (xs.map .int)) (xs := xs.map .int)
    (fun v => match v with | .int x => if wB x = true then some (.int x) else none | _ => none) (ev_var h) rfl ?_ ?_
  · have e : (xs.map V.int).filterMap (fun v => match v with | .int x => if wB x = true then some (V.int x) else none | _ => none) = (xs.filter wB).map .int := by
      rw [List.filterMap_map]
      clear key h hn
      induction xs with
      | nil => rfl
      | cons a r ih =>
        cases hb : wB a with
        | true => rw [List.filter_cons_of_pos hb, List.filterMap_cons_some (b := V.int a) (by show (if wB a = true then some (V.int a) else none) = _; rw [if_pos hb]), ih]; rfl
        | false => rw [List.filter_cons_of_neg (by rw [hb]; decide), List.filterMap_cons_none (by show (if wB a = true then some (V.int a) else none) = _; rw [if_neg (by rw [hb]; decide)]), ih]
    rw [e] at key
    exact key
  · intro y hy
    obtain ⟨x, _, rfl⟩ := List.mem_map.mp hy
    have lk : (⟨σ.toHp, [(("x" : PySem.Str), V.int x)], σ.cel, none⟩ : St).loc.lookup ("x" : PySem.Str) = some (.int x) := lk_eq
    have m := @mod_ok σ.toHp x 2 (by decide)
    have e0 : ev cx.toCx (.bin .Mod (.var "x") (.int 2)) ⟨σ.toHp, [(("x" : PySem.Str), V.int x)], σ.cel, none⟩ = .ok (.int (x.fmod 2)) ⟨σ.toHp, [(("x" : PySem.Str), V.int x)], σ.cel, none⟩ := by
      refine (Rs.bind_ok (ev_var lk) : _).trans ?_
      show (binV σ.toHp .Mod (.int x) (.int 2)).st _ = _
      rw [m]; rfl
    have e1 := ev_is1 e0 1
    rw [Rs.bind_ok e1]
    unfold condO
    show (match (some (wB x) : Option Bool) with | some true => _ | some false => _ | none => _) = Rs.ok (if wB x = true then some (V.int x) else none) _
    cases wB x with
    | true => exact (Rs.bind_ok (ev_var lk) : _)
    | false => rfl
  · refine Nat.le_trans (List.length_filterMap_le _ _) ?_
    rw [sizeLine_eq]; simp; omega
theorem any_words (xs : List Int) : (ans xs).2.isEmpty = (xs.filter wB).isEmpty := by
  have h := (ans_ok xs).any
  have h2 : (xs.filter wB).isEmpty = true ↔ ∀ i, i < xs.length → Wf xs i = false := by
    rw [List.isEmpty_iff, List.filter_eq_nil_iff]
    refine ⟨fun q i hi => ?_, fun q a ha => ?_⟩
    · unfold Wf
      rw [List.getD_eq_getElem?_getD, List.getElem?_eq_getElem hi]
      exact Bool.eq_false_iff.mpr (q _ (List.getElem_mem hi))
    · obtain ⟨i, hi, rfl⟩ := List.getElem_of_mem ha
      have := q i hi
      unfold Wf at this
      rw [List.getD_eq_getElem?_getD, List.getElem?_eq_getElem hi] at this
      exact Bool.eq_false_iff.mp this
  rw [Bool.eq_iff_iff, List.isEmpty_iff, h, h2]
end
end Mine.L03
end
noncomputable section
set_option Elab.async false
set_option linter.all false
set_option maxRecDepth 100000
set_option maxHeartbeats 4000000
namespace Mine.L03
open PySem PySem.W PyProof.Rows Mine Mine.Re Mine.Tx

theorem gd_asgC {cx : Sx} {σ : St} {x : PySem.Str} {e : X} {v : V} {σ₁ σ₂ : St} {Q : Fl → St → Prop} (he : ev cx.toCx e σ = .ok v σ₁) (hs : σ₁.setC x v = some σ₂) (h : Q .next σ₂) : Gd (ex (.asgC x e) cx σ) Q := by
  refine ⟨_, σ₂, (Rs.bind_ok he : _).trans ?_, h⟩
  rw [hs]; rfl

section
variable {p : Params}
noncomputable def runX (t s : PySem.Str) : X := .call (.glob "_law_run") (.cons (.var t) (.cons (.var s) (.cons (.cv "bars") .nil)))
noncomputable def test_X : X := .cmp .NotEq (runX "rich" "rich_starts") (.list (.cons (.var "asked") (.cons (.var "told") .nil)))
noncomputable def last_X : X := (.and (.cmp .Eq (.var "told") (.idx (.var "free") (.neg (.int 1)))) (.cmp .Eq (.cmp .Eq (.var "asked") (.list .nil)) (.cmp .Eq words_X (.list .nil))))
noncomputable def rest_S : S := (.seq (.asg2 "asked" "told" (runX "bare" "bare_starts")) (.seq (.ite test_X (.seq (.ret (.bool false)) .nil) .nil) (.seq (.asg "free" free_X) (.seq (.ret last_X) .nil))))
theorem law_eq : law_S = .seq (.asg "numbers" num_X) (.seq (.asgC "bars" bars_X) (.seq (.asg "bare" (.str "")) (.seq (.asg "rich" (.str "")) (.seq (.own "bare_starts" (.list .nil)) (.seq (.own "rich_starts" (.list .nil)) (.seq (.each "x" (.var "numbers") bodyL_S) rest_S)))))) := rfl

theorem ev_nil {cx : Cx} {σ : St} : ev cx (.list .nil) σ = .ok (.list []) σ := by
  simp only [evq_none, evq_bool, evq_int, evq_str, evq_var, evq_cv, evq_glob, evq_bin, evq_neg, evq_not, evq_cmp, evq_and, evq_or, evq_ite, evq_idx, evq_slc, evq_attr, evq_list, evq_tup, evq_nil, evq_cons, evq_call, evq_meth, evq_comp, evq_lam, evq_named, Rs.bind, argR]; exact fits_ok (by decide)
theorem ev_cmp {cx : Cx} {σ : St} {op : CmpOp} {a b : X} {v w r : V} (h1 : ev cx a σ = .ok v σ) (h2 : ev cx b σ = .ok w σ) (h : cmpV σ.toHp op v w = .ok r) : ev cx (.cmp op a b) σ = .ok r σ :=
  (Rs.bind_ok h1 : _).trans ((Rs.bind_ok h2 : _).trans (by rw [h]; rfl))
theorem ev_call3 {cx : Cx} {σ : St} {f a b c : X} {vf va vb vc : V} {r : Rs V} (h1 : ev cx f σ = .ok vf σ) (h2 : ev cx a σ = .ok va σ) (h3 : ev cx b σ = .ok vb σ) (h4 : ev cx c σ = .ok vc σ) (h : (cx.app vf [va, vb, vc] σ.toHp).lift σ = r) : ev cx (.call f (.cons a (.cons b (.cons c .nil)))) σ = r := by
  simp only [evq_none, evq_bool, evq_int, evq_str, evq_var, evq_cv, evq_glob, evq_bin, evq_neg, evq_not, evq_cmp, evq_and, evq_or, evq_ite, evq_idx, evq_slc, evq_attr, evq_list, evq_tup, evq_nil, evq_cons, evq_call, evq_meth, evq_comp, evq_lam, evq_named, h1, h2, h3, h4, Rs.bind, argR]; exact h

theorem start_at (ns : List Int) : (start3 ns).loc.lookup ("script" : PySem.Str) = some (.list (ns.map .int)) ∧ (start3 ns).cel = ([("bars", 1)] : List (PySem.Str × Nat)) ∧ (start3 ns).toHp = (H0 lq).add (.cell none) := by
  have f1 : (scLaw.names.lookup ("script" : PySem.Str) == some .local) = true := by decide
  unfold start3 lawSt
  generalize hbv : ([("script", .list (ns.map .int))] : List (PySem.Str × V)) = bv
  have g : bv.lookup ("bars" : PySem.Str) = none := by rw [← hbv]; exact lk_ne (by decide) rfl
  have hf : (bv.filter fun p => scLaw.names.lookup p.1 == some .local) = bv := by
    rw [← hbv]; simp only [List.filter, f1]
  have hc : cellsH bv scLaw.names (H0 lq) [] = ((H0 lq).add (.cell none), ([("bars", 1)] : List (PySem.Str × Nat))) := by
    rw [← g]; rfl
  unfold entry
  rw [hc, hf]
  exact ⟨by rw [← hbv]; exact lk_eq, rfl, rfl⟩
theorem start_run {ns : List Int} (hl : ns.length ≤ 63) {Q : Fl → St → Prop} {r : S} (h : ∀ σ, B3 (nums ns) 0 σ → Gd (ex r (tower (G3 p) rows3 58 6) σ) Q) :
    Gd (ex (.seq (.asg "numbers" num_X) (.seq (.asgC "bars" bars_X) (.seq (.asg "bare" (.str "")) (.seq (.asg "rich" (.str "")) (.seq (.own "bare_starts" (.list .nil)) (.seq (.own "rich_starts" (.list .nil)) r)))))) (tower (G3 p) rows3 58 6) (start3 ns)) Q := by
  obtain ⟨s1, c1, hh⟩ := start_at ns
  have o0 : (start3 ns).obj 0 = some (.tab lq) := by rw [hh]; rfl
  have o1 : (start3 ns).obj 1 = some (.cell none) := by rw [hh]; rfl
  have nx : (start3 ns).nxt = 2 := by rw [hh]; rfl
  generalize start3 ns = σ at s1 c1 o0 o1 nx ⊢
  have hxl := @nums_len ns
  refine gd_seq (gd_asg (num_ev hl s1) ?_)
  generalize nums ns = xs at h hxl ⊢
  have hb := bars_ev (cx := tower (G3 p) rows3 58 6) hxl.1 (σ := σ.set "numbers" (.list (xs.map .int))) look_eq
  have hs : (σ.set "numbers" (.list (xs.map .int))).setC "bars" (.list (barsV xs)) = some ((σ.set "numbers" (.list (xs.map .int))).put 1 (.cell (some (.list (barsV xs))))) := by
    unfold St.setC
    have lc : (σ.set "numbers" (.list (xs.map .int))).cel.lookup ("bars" : PySem.Str) = some 1 := by
      show σ.cel.lookup _ = _
      rw [c1]; exact lk_eq
    have oc : (σ.set "numbers" (.list (xs.map .int))).obj 1 = some (.cell none) := o1
    rw [lc]
    dsimp only
    rw [oc]
    rfl
  refine gd_seq (gd_asgC hb hs ?_)
  refine gd_seq (gd_asg (v := .str "") rfl ?_)
  refine gd_seq (gd_asg (v := .str "") rfl ?_)
  refine gd_seq (gd_own ev_nil ?_)
  refine gd_seq (gd_own ev_nil (h _ ?_))
  have e2 : ((((σ.set "numbers" (.list (xs.map .int))).put 1 (.cell (some (.list (barsV xs))))).set "bare" (.str "")).set "rich" (.str "")).nxt = 2 := nx
  have n2 : ((((σ.set "numbers" (.list (xs.map .int))).put 1 (.cell (some (.list (barsV xs))))).set "bare" (.str "")).set "rich" (.str "")).loc.lookup ("numbers" : PySem.Str) = some (.list (xs.map .int)) := look_ne (by decide) (look_ne (by decide) look_eq)
  have b2 : ((((σ.set "numbers" (.list (xs.map .int))).put 1 (.cell (some (.list (barsV xs))))).set "bare" (.str "")).set "rich" (.str "")).loc.lookup ("bare" : PySem.Str) = some (.str "") := look_ne (by decide) look_eq
  have r2 : ((((σ.set "numbers" (.list (xs.map .int))).put 1 (.cell (some (.list (barsV xs))))).set "bare" (.str "")).set "rich" (.str "")).loc.lookup ("rich" : PySem.Str) = some (.str "") := look_eq
  have q0 : ((((σ.set "numbers" (.list (xs.map .int))).put 1 (.cell (some (.list (barsV xs))))).set "bare" (.str "")).set "rich" (.str "")).obj 0 = some (.tab lq) := put_ne (σ := σ.set "numbers" (.list (xs.map .int))) (by decide) o0
  have q1 : ((((σ.set "numbers" (.list (xs.map .int))).put 1 (.cell (some (.list (barsV xs))))).set "bare" (.str "")).set "rich" (.str "")).obj 1 = some (.cell (some (.list (barsV xs)))) := put_eq (σ := σ.set "numbers" (.list (xs.map .int)))
  have c2 : ((((σ.set "numbers" (.list (xs.map .int))).put 1 (.cell (some (.list (barsV xs))))).set "bare" (.str "")).set "rich" (.str "")).cel = ([("bars", 1)] : List (PySem.Str × Nat)) := c1
  generalize (((σ.set "numbers" (.list (xs.map .int))).put 1 (.cell (some (.list (barsV xs))))).set "bare" (.str "")).set "rich" (.str "") = σ2 at e2 n2 b2 r2 q0 q1 c2 ⊢
  have e3 : ((σ2.add (.list [])).set "bare_starts" (.ref σ2.nxt)).nxt = 3 := by show σ2.nxt + 1 = 3; rw [e2]
  have t0 : txt [] = ("" : PySem.Str) := by decide
  have ob : ∀ (j : Nat), ((((σ2.add (.list [])).set "bare_starts" (.ref σ2.nxt)).add (.list [])).set "rich_starts" (.ref ((σ2.add (.list [])).set "bare_starts" (.ref σ2.nxt)).nxt)).obj j = if j = 3 then some (.list []) else if j = 2 then some (.list []) else σ2.obj j := fun j => by
    show (if j = σ2.nxt + 1 then _ else if j = σ2.nxt then _ else σ2.obj j) = _
    rw [e2]
  rw [e3] at ob ⊢
  rw [e2] at ob ⊢
  refine ⟨look_ne (by decide) (look_ne (by decide) n2), ?_, ?_, look_ne (by decide) look_eq, look_eq, c2, (ob 0).trans q0, (ob 1).trans q1, (ob 2).trans rfl, (ob 3).trans rfl, ?_⟩
  · show _ = some (V.str (txt []))
    rw [t0]; exact look_ne (by decide) (look_ne (by decide) b2)
  · show _ = some (V.str (txt []))
    rw [t0]; exact look_ne (by decide) (look_ne (by decide) r2)
  · show σ2.nxt + 1 + 1 = 4
    rw [e2]

theorem last_run {xs : List Int} (h8 : xs.length ≤ 8) {σ : St} {j kb : Nat} (hn : σ.loc.lookup ("numbers" : PySem.Str) = some (.list (xs.map .int))) (ha : σ.loc.lookup ("asked" : PySem.Str) = some (.ref j)) (ht : σ.loc.lookup ("told" : PySem.Str) = some (tA (ans xs).1))
    (hj : σ.obj j = some (.list (natsV (ans xs).2))) (hm : (ans xs).2.length < 1000) (hc : σ.cel.lookup ("bars" : PySem.Str) = some kb) (hb : σ.obj kb = some (.cell (some (.list ((barsI xs).map .int))))) (h0 : σ.obj 0 = some (.tab lq)) :
    Gd (ex (.seq (.asg "free" free_X) (.seq (.ret last_X) .nil)) (tower (G3 p) rows3 58 6) σ) fun f σ' => f = .ret (.bool true) ∧ σ'.obj 0 = some (.tab lq) := by
  refine gd_seq (gd_asg (free_ev h8 hm ha hj hc hb) ?_)
  have n1 : (σ.set "free" (.list (.none :: natsV (freeR xs)))).loc.lookup ("numbers" : PySem.Str) = _ := look_ne (by decide) hn
  have a1 : (σ.set "free" (.list (.none :: natsV (freeR xs)))).loc.lookup ("asked" : PySem.Str) = _ := look_ne (by decide) ha
  have t1 : (σ.set "free" (.list (.none :: natsV (freeR xs)))).loc.lookup ("told" : PySem.Str) = _ := look_ne (by decide) ht
  have f1 : (σ.set "free" (.list (.none :: natsV (freeR xs)))).loc.lookup ("free" : PySem.Str) = _ := look_eq
  have j1 : (σ.set "free" (.list (.none :: natsV (freeR xs)))).obj j = _ := hj
  have o1 : (σ.set "free" (.list (.none :: natsV (freeR xs)))).obj 0 = _ := h0
  generalize σ.set "free" (.list (.none :: natsV (freeR xs))) = σ1 at n1 a1 t1 f1 j1 o1 ⊢
  have e1 : ev (tower (G3 p) rows3 58 6).toCx (.cmp .Eq (.var "told") (.idx (.var "free") (.neg (.int 1)))) σ1 = .ok (.bool true) σ1 := ev_cmp (ev_var t1) (ev_idx (ev_var f1) ev_m1 (free_last _ xs)) (eq_tA _)
  have e2 : ev (tower (G3 p) rows3 58 6).toCx (.cmp .Eq (.cmp .Eq (.var "asked") (.list .nil)) (.cmp .Eq words_X (.list .nil))) σ1 = .ok (.bool true) σ1 := by
    refine ev_cmp (ev_cmp (ev_var a1) ev_nil (eq_nil j1)) (ev_cmp (words_ev h8 n1) ev_nil eq_nilI) ?_
    rw [eq_bools, any_words, beq_self_eq_true]
  have e3 : ev (tower (G3 p) rows3 58 6).toCx last_X σ1 = .ok (.bool true) σ1 := (Rs.bind_ok e1 : _).trans e2
  exact gd_seq (gd_ret e3 ⟨rfl, o1⟩)
end
end Mine.L03
end
noncomputable section
set_option Elab.async false
set_option linter.all false
set_option maxRecDepth 100000
set_option maxHeartbeats 4000000
namespace Mine.L03
open PySem PySem.W PyProof.Rows Mine Mine.Re Mine.Tx

section
variable {p : Params}
theorem ans_len {xs : List Int} (h8 : xs.length ≤ 8) : (ans xs).2.length < 1000 := by
  have key : ∀ (W K B : Nat → Bool) (n : Nat), (findA W K B n []).2.length ≤ n + 6 := by
    intro W K B n
    have t : ∀ (c k : Nat) (m : List Nat), (tryA W K B c k m).2.length ≤ m.length + c := by
      intro c
      induction c with
      | zero => intro k m; exact Nat.le_refl _
      | succ c ih =>
        intro k m
        unfold tryA
        cases colA K k with
        | none => exact Nat.le_add_right _ _
        | some j =>
          dsimp only
          cases fstA W (k - j) j with
          | none => exact Nat.le_trans (ih j m) (by omega)
          | some r =>
            dsimp only
            split
            · have := ih j (m ++ [r])
              rw [List.length_append, List.length_singleton] at this; omega
            · rw [List.length_append, List.length_singleton]; omega
    have l : ∀ (c a pos : Nat) (m : List Nat), (lastA W B c a pos m).2.length ≤ m.length + c := by
      intro c
      induction c with
      | zero => intro a pos m; exact Nat.le_refl _
      | succ c ih =>
        intro a pos m
        unfold lastA
        split
        · have := ih (a + 1) (if B a = true then pos else a) (m ++ [a])
          rw [List.length_append, List.length_singleton] at this; omega
        · have := ih (a + 1) pos m; omega
    unfold findA
    have t5 := t 5 n []
    cases ht : tryA W K B 5 n [] with
    | mk o m' =>
    rw [ht] at t5
    have t5' : m'.length ≤ 0 + 5 := t5
    cases o with
    | none =>
      dsimp only
      cases fstA W n 0 with
      | none => show m'.length ≤ _; omega
      | some r => show (m' ++ [r]).length ≤ _; rw [List.length_append, List.length_singleton]; omega
    | some r =>
      have := l (n - (r + 1)) (r + 1) r m'
      dsimp only
      omega
  have := key (Wf xs) (Kf xs) (Bf xs) xs.length
  unfold ans
  omega

theorem rest_run {xs : List Int} (h8 : xs.length ≤ 8) {σ : St} (h : B3 xs xs.length σ) :
    Gd (ex rest_S (tower (G3 p) rows3 58 6) σ) fun f σ' => f = .ret (.bool true) ∧ σ'.obj 0 = some (.tab lq) := by
  have gr : ∀ σ : St, ev (tower (G3 p) rows3 58 6).toCx (.glob "_law_run") σ = .ok (.top (.ref 184)) σ := fun σ => by
    have : (tower (G3 p) rows3 58 6).gl "_law_run" = some (.top (.ref 184)) := by rw [tower_gl]; rfl
    simp only [evq_none, evq_bool, evq_int, evq_str, evq_var, evq_cv, evq_glob, evq_bin, evq_neg, evq_not, evq_cmp, evq_and, evq_or, evq_ite, evq_idx, evq_slc, evq_attr, evq_list, evq_tup, evq_nil, evq_cons, evq_call, evq_meth, evq_comp, evq_lam, evq_named, this]
  have hz : sizeLine = 16777216 := by decide
  have bb := bare_bound xs
  have rb := rich_bound xs
  have rc := rich_count xs
  have blen : (bareLs' xs).length = xs.length := by simp [bareLs']
  have tb := told_emb (bare_emb xs)
  have tr := told_emb (rich_emb xs)
  have hbl : (barsI xs).length = (stsOf (bareLs' xs) id xs.length).length + 1 := by rw [barsI_len, sts_len]
  have hrl : (barsI xs).length = (stsOf (richLs xs) (rho xs) xs.length).length + 1 := by rw [barsI_len, sts_len]
  have hn := h.nums
  have hb := h.bare
  have hr := h.rich
  rw [List.take_length] at hb hr
  have o1 := h.o1
  rw [barsV_I] at o1
  have o2 := h.o2
  rw [posB_sts] at o2
  have o3 := h.o3
  rw [posR_sts] at o3
  have lc : σ.cel.lookup ("bars" : PySem.Str) = some 1 := by rw [h.cel]; exact lk_eq
  -- the bare text
  obtain ⟨H1, e1, lo1, a1, n1⟩ := run_call (p := p) (σ := σ) (js := 2) (sts := stsOf (bareLs' xs) id xs.length) (bars := barsI xs) (ls := bareLs' xs) h.nxt (by decide) (by decide) h.o0 o2 (bare_lines xs) (by omega) (by omega) (by rw [sts_len]; omega) hbl
  rw [tb.1] at e1
  rw [tb.2] at a1
  have v1 : ev (tower (G3 p) rows3 58 6).toCx (runX "bare" "bare_starts") σ = .ok (.list [.ref (4 + 3), tA (ans xs).1]) { σ with toHp := H1 } := ev_call3 (gr σ) (ev_var hb) (ev_var h.bs) (ev_cv lc o1) e1
  refine gd_seq (gd_asg2L v1 ?_)
  have k1 : ((({ σ with toHp := H1 } : St).set "asked" (.ref (4 + 3))).set "told" (tA (ans xs).1)).loc.lookup ("numbers" : PySem.Str) = _ := look_ne (by decide) (look_ne (by decide) hn)
  have k2 : ((({ σ with toHp := H1 } : St).set "asked" (.ref (4 + 3))).set "told" (tA (ans xs).1)).loc.lookup ("rich" : PySem.Str) = _ := look_ne (by decide) (look_ne (by decide) hr)
  have k3 : ((({ σ with toHp := H1 } : St).set "asked" (.ref (4 + 3))).set "told" (tA (ans xs).1)).loc.lookup ("rich_starts" : PySem.Str) = _ := look_ne (by decide) (look_ne (by decide) h.rs)
  have k4 : ((({ σ with toHp := H1 } : St).set "asked" (.ref (4 + 3))).set "told" (tA (ans xs).1)).loc.lookup ("asked" : PySem.Str) = _ := look_ne (by decide) look_eq
  have k5 : ((({ σ with toHp := H1 } : St).set "asked" (.ref (4 + 3))).set "told" (tA (ans xs).1)).loc.lookup ("told" : PySem.Str) = _ := look_eq
  have k6 : ((({ σ with toHp := H1 } : St).set "asked" (.ref (4 + 3))).set "told" (tA (ans xs).1)).cel.lookup ("bars" : PySem.Str) = some 1 := lc
  have k7 : ((({ σ with toHp := H1 } : St).set "asked" (.ref (4 + 3))).set "told" (tA (ans xs).1)).nxt = 4 + 6 := n1
  have m0 : ((({ σ with toHp := H1 } : St).set "asked" (.ref (4 + 3))).set "told" (tA (ans xs).1)).obj 0 = _ := (lo1 0 (by decide)).trans h.o0
  have m1 : ((({ σ with toHp := H1 } : St).set "asked" (.ref (4 + 3))).set "told" (tA (ans xs).1)).obj 1 = _ := (lo1 1 (by decide)).trans o1
  have m3 : ((({ σ with toHp := H1 } : St).set "asked" (.ref (4 + 3))).set "told" (tA (ans xs).1)).obj 3 = _ := (lo1 3 (by decide)).trans o3
  have m7 : ((({ σ with toHp := H1 } : St).set "asked" (.ref (4 + 3))).set "told" (tA (ans xs).1)).obj (4 + 3) = _ := a1
  generalize (({ σ with toHp := H1 } : St).set "asked" (.ref (4 + 3))).set "told" (tA (ans xs).1) = σ1 at k1 k2 k3 k4 k5 k6 k7 m0 m1 m3 m7 ⊢
  -- the rich text
  obtain ⟨H2, e2, lo2, a2, n2⟩ := run_call (p := p) (σ := σ1) (js := 3) (sts := stsOf (richLs xs) (rho xs) xs.length) (bars := barsI xs) (ls := richLs xs) k7 (by decide) (by decide) m0 m3 (rich_lines xs) (by omega) (by omega) (by rw [sts_len]; omega) hrl
  rw [tr.1] at e2
  rw [tr.2] at a2
  have v2 : ev (tower (G3 p) rows3 58 6).toCx (runX "rich" "rich_starts") σ1 = .ok (.list [.ref (4 + 6 + 3), tA (ans xs).1]) { σ1 with toHp := H2 } := ev_call3 (gr σ1) (ev_var k2) (ev_var k3) (ev_cv k6 m1) e2
  have q1 : ({ σ1 with toHp := H2 } : St).loc.lookup ("numbers" : PySem.Str) = _ := k1
  have q4 : ({ σ1 with toHp := H2 } : St).loc.lookup ("asked" : PySem.Str) = _ := k4
  have q5 : ({ σ1 with toHp := H2 } : St).loc.lookup ("told" : PySem.Str) = _ := k5
  have q6 : ({ σ1 with toHp := H2 } : St).cel.lookup ("bars" : PySem.Str) = some 1 := k6
  have w0 : ({ σ1 with toHp := H2 } : St).obj 0 = _ := (lo2 0 (by decide)).trans m0
  have w1 : ({ σ1 with toHp := H2 } : St).obj 1 = _ := (lo2 1 (by decide)).trans m1
  have w7 : ({ σ1 with toHp := H2 } : St).obj (4 + 3) = _ := (lo2 _ (by decide)).trans m7
  have w13 : ({ σ1 with toHp := H2 } : St).obj (4 + 6 + 3) = _ := a2
  generalize ({ σ1 with toHp := H2 } : St) = σ2 at v2 q1 q4 q5 q6 w0 w1 w7 w13
  have v3 : ev (tower (G3 p) rows3 58 6).toCx test_X σ1 = .ok (.bool false) σ2 := by
    refine (Rs.bind_ok v2 : _).trans ((Rs.bind_ok (ev_list2 (ev_var q4) (ev_var q5)) : _).trans ?_)
    rw [eq_pairs w13 w7]; rfl
  refine gd_seq (gd_ite v3 rfl (fun q => by cases q) (fun _ => gd_nil ?_))
  exact last_run h8 q1 q4 q5 w7 (ans_len h8) q6 w1 w0

theorem plain3 : Plain3 := fun p ns hl => by
  have key : Gd (ex law_S (tower (G3 p) rows3 58 6) (start3 ns)) fun f σ' => f = .ret (.bool true) ∧ σ'.obj 0 = some (.tab lq) := by
    rw [law_eq]
    refine start_run hl fun σ h => gd_seq ((loop3 nums_len.1 h).mono ?_)
    rintro f σ' ⟨rfl, h'⟩
    exact rest_run nums_len.1 h'
  obtain ⟨f, σ', e, rfl, h⟩ := key
  exact ⟨σ', e, h⟩
end
end Mine.L03
end
set_option maxRecDepth 100000 in
theorem PySem.Challenge.cw_dm0167_03_holds : PySem.Challenge.rw_dm0167_03.Holds :=
  Mine.L03.joined Mine.L03.plain3
