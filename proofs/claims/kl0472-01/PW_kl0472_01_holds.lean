import PyProof.Rows.All
import Wide.All
import OpenK.AllK
import Wide.FinOn
import PySem.Challenge.RW_kl0472_01
set_option compiler.extract_closed false
set_option Elab.async false
set_option rowWalk.seconds 0
section
open PySem.Sre
set_option linter.unusedSimpArgs false
set_option linter.unusedVariables false
namespace Mine

noncomputable def Ends (N : Nat) (m : M) (P : M → Prop) : Prop := ∃ k, k ≤ N ∧ (M.runFor k m).outcome.isSome = true ∧ P (M.runFor k m)

theorem runFor_stop {m : M} (h : m.outcome.isSome = true) : ∀ n, M.runFor n m = m
  | 0 => rfl
  | n + 1 => by unfold M.runFor; rw [if_pos h]

theorem Ends.step {N : Nat} {m m' : M} {P : M → Prop} (h : m.outcome = none) (hs : m.step = m') (e : Ends N m' P) : Ends (N + 1) m P := by
  obtain ⟨k, hk, h1, h2⟩ := e
  subst hs
  have e : M.runFor (k + 1) m = M.runFor k m.step := by
    show (if m.outcome.isSome then m else M.runFor k m.step) = _
    rw [h]; rfl
  exact ⟨k + 1, Nat.succ_le_succ hk, by rw [e]; exact h1, by rw [e]; exact h2⟩

theorem Ends.here {N : Nat} {m : M} {P : M → Prop} (h : m.outcome.isSome = true) (p : P m) : Ends N m P := ⟨0, Nat.zero_le _, h, p⟩
theorem Ends.mono {N N' : Nat} {m : M} {P : M → Prop} (e : Ends N m P) (h : N ≤ N') : Ends N' m P := by
  obtain ⟨k, hk, r⟩ := e
  exact ⟨k, Nat.le_trans hk h, r⟩

theorem Ends.stepS {N : Nat} {m : M} {P : M → Prop} (f : Seen → M) (h : m.outcome = none) (hs : ∃ sn, m.step = f sn) (e : ∀ sn, Ends N (f sn) P) : Ends (N + 1) m P := by
  obtain ⟨sn, hs⟩ := hs
  exact Ends.step h hs (e sn)

structure Won (m : M) (start hd : Nat) (lm li : Int) (mk : Array (Option Nat)) : Prop where
  out : m.outcome = some .matched
  start : m.start = start
  handed : m.handed = hd
  lm : m.lastmark = lm
  li : m.lastindex = li
  marks : m.marks = mk
noncomputable def Lost (m : M) : Prop := m.outcome = some .failed

theorem step_exec {m : M} (h1 : m.outcome = none) (h2 : m.answer = none) (hs : m.pc < m.code.size) : m.step = m.exec := by
  unfold M.step
  rw [h1, h2]
  exact if_pos hs
/-- what is made of one item's answer -/
noncomputable def took (m : M) : Except String (Bool × Seen) → M
  | .error why => m.stick why
  | .ok (b, s) => match b with
    | false => { m with seen := s, answer := some false }
    | true => { m with seen := s, pc := m.pc + itemWidth m.code m.pc, pos := m.pos + 1 }
theorem took_yes {m : M} {s : Seen} {wd : Nat} (h : itemWidth m.code m.pc = wd) : took m (.ok (true, s)) = { m with seen := s, pc := m.pc + wd, pos := m.pos + 1 } := by
  subst h
  rfl
noncomputable def placed (m : M) (k : Nat) : Except String Bool → M
  | .error why => m.stick why
  | .ok yes => if yes then { m with seen := m.seen.add (43 + k), pc := m.pc + 2 } else { m with seen := m.seen.add (43 + k), answer := some false }
/-- what the words of our patterns do -/
noncomputable def Ex (m : M) (F : Nat → M) : Prop :=
  (∀ k, (k = 16 ∨ k = 2 ∨ k = 13) → m.pos ≥ m.lim → F k = { m with seen := m.seen.add k, answer := some false }) ∧
  (∀ k, (k = 16 ∨ k = 2 ∨ k = 13) → m.pos < m.lim → F k = took { m with seen := m.seen.add k } (accepts m.code m.pc (m.text.getD m.pos 0) (m.seen.add k))) ∧
  (∀ i, m.word 1 = i → F 6 = placed { m with seen := m.seen.add 6 } i (m.isAt i)) ∧
  (∀ i, m.word 1 = i → F 17 = ({ m with seen := m.seen.add 17 } : M).mark i) ∧
  (F 1 = if m.outermost && ((m.wholeText && m.pos != m.lim) || (m.mustAdvance && m.pos == m.start)) then { m with seen := m.seen.add 1, answer := some false } else { m with seen := m.seen.add 1, handed := m.pos, answer := some true }) ∧
  ((m.word 2 : Int) > (m.lim : Int) - m.pos → F 24 = { m with seen := m.seen.add 24, answer := some false }) ∧
  (∀ n sn, ¬ (m.word 2 : Int) > (m.lim : Int) - m.pos → run m.code m.text (m.pc + 4) (min (m.word 3) ((m.lim : Int) - m.pos).toNat) m.pos 0 ((m.seen.add 24).add (m.word 4)) = .ok (n, sn) →
    F 24 = if n < m.word 2 then { m with seen := sn, answer := some false } else ({ m with seen := sn, pos := m.pos + n } : M).afterRun .giveBack n (({ m with seen := sn, pos := m.pos + n } : M).keep m.inner.isSome)) ∧
  (F 23 = ({ m with seen := m.seen.add 23, loops := m.loops.push { pc := m.pc, outer := m.inner }, inner := some m.loops.size } : M).attempt
    { ({ m with seen := m.seen.add 23, loops := m.loops.push { pc := m.pc, outer := m.inner }, inner := some m.loops.size } : M).frame .closeLoop with loop := m.loops.size } (m.pc + 1 + m.word 1) m.pos m.outermost) ∧
  (F 18 = ({ m with seen := m.seen.add 18, pc := m.pc + 1 } : M).until_ true)
theorem exec_all (m : M) : ∃ F : Nat → M, m.exec = F (m.word 0) ∧ Ex m F := by
  apply Exists.intro
  apply And.intro
  · unfold M.exec
    generalize m.word 0 = k
    exact Eq.refl _
  refine ⟨?_, ?_, ?_, ?_, rfl, fun h => if_pos h, ?_, rfl, rfl⟩
  · rintro k (rfl | rfl | rfl) hp <;> exact if_pos hp
  · rintro k (rfl | rfl | rfl) hp <;> (refine (if_neg (Nat.not_le_of_lt hp)).trans ?_; generalize accepts m.code m.pc (m.text.getD m.pos 0) _ = r; rcases r with _ | ⟨_ | _, _⟩ <;> rfl)
  · intro i h
    subst h
    rfl
  · intro i h
    subst h
    rfl
  · intro n sn h e
    refine (if_neg h).trans ?_
    show (match run m.code m.text (m.pc + 4) (min (if false then m.word 2 else m.word 3) ((m.lim : Int) - m.pos).toNat) m.pos 0 ((m.seen.add 24).add (m.word 4)) with | .error why => _ | .ok (n, seen) => _) = _
    rw [show run m.code m.text (m.pc + 4) (min (if false then m.word 2 else m.word 3) ((m.lim : Int) - m.pos).toNat) m.pos 0 ((m.seen.add 24).add (m.word 4)) = .ok (n, sn) from e]
    rfl
theorem Ends.op {N : Nat} {m : M} {P : M → Prop} {w : Nat} (f : Seen → M) (h1 : m.outcome = none) (h2 : m.answer = none) (hs : m.pc < m.code.size) (h : m.word 0 = w) (hx : ∀ F, Ex m F → ∃ sn, F w = f sn) (e : ∀ sn, Ends N (f sn) P) : Ends (N + 1) m P := by
  obtain ⟨F, e0, X⟩ := exec_all m
  obtain ⟨sn, e1⟩ := hx F X
  exact Ends.step h1 (((step_exec h1 h2 hs).trans e0).trans ((congrArg F h).trans e1)) (e sn)
theorem accepts_lit {C : Array Nat} {i c : Nat} {sn : Seen} (h : C.getD i 0 = 16) : accepts C i c sn = .ok (c == C.getD (i + 1) 0, sn) := by
  unfold accepts
  rw [h]
  rfl
theorem accepts_any {C : Array Nat} {i c : Nat} {sn : Seen} (h : C.getD i 0 = 2) : accepts C i c sn = .ok (c != 10, sn) := by
  unfold accepts
  rw [h]
  rfl
theorem width_lit {C : Array Nat} {i : Nat} (h : C.getD i 0 = 16) : itemWidth C i = 2 := by
  unfold itemWidth
  rw [h]
  rfl
theorem width_any {C : Array Nat} {i : Nat} (h : C.getD i 0 = 2) : itemWidth C i = 1 := by
  unfold itemWidth
  rw [h]
  rfl
theorem width_in {C : Array Nat} {i : Nat} (h : C.getD i 0 = 13) : itemWidth C i = 1 + C.getD (i + 1) 0 := by
  unfold itemWidth
  rw [h]
  rfl
section
variable {C T : Array Nat} {lim start ls : Nat} {wt ma : Bool} {pc pos hd : Nat} {om : Bool} {mk : Array (Option Nat)} {lm li : Int} {lo : Array PySem.Sre.Loop} {inn : Option Nat} {fr : List PySem.Sre.Frame} {w : Nat} {sn : Seen} {N : Nat} {P : M → Prop}

theorem e_lit (hs : pc < C.size) (h0 : C.getD pc 0 = 16) (hp : pos < lim) (hc : T.getD pos 0 = C.getD (pc + 1) 0)
    (k : ∀ sn, Ends N ⟨C, T, lim, start, ls, wt, ma, pc + 2, pos + 1, hd, om, mk, lm, li, lo, inn, fr, w, none, sn, none⟩ P) :
    Ends (N + 1) ⟨C, T, lim, start, ls, wt, ma, pc, pos, hd, om, mk, lm, li, lo, inn, fr, w, none, sn, none⟩ P := by
  refine Ends.op _ rfl rfl hs h0 (fun F X => ⟨sn.add 16, ((X.2.1 16 (.inl rfl) hp).trans ?_)⟩) k
  show took _ (accepts C pc (T.getD pos 0) (sn.add 16)) = _
  rw [accepts_lit h0, hc, beq_self_eq_true]
  exact took_yes (width_lit h0)
theorem e_litF (hs : pc < C.size) (h0 : C.getD pc 0 = 16) (hp : pos ≥ lim ∨ T.getD pos 0 ≠ C.getD (pc + 1) 0)
    (k : ∀ sn, Ends N ⟨C, T, lim, start, ls, wt, ma, pc, pos, hd, om, mk, lm, li, lo, inn, fr, w, some false, sn, none⟩ P) :
    Ends (N + 1) ⟨C, T, lim, start, ls, wt, ma, pc, pos, hd, om, mk, lm, li, lo, inn, fr, w, none, sn, none⟩ P := by
  refine Ends.op _ rfl rfl hs h0 (fun F X => ⟨sn.add 16, ?_⟩) k
  by_cases hq : pos ≥ lim
  · exact X.1 16 (.inl rfl) hq
  · refine (X.2.1 16 (.inl rfl) (Nat.lt_of_not_le hq)).trans ?_
    show took _ (accepts C pc (T.getD pos 0) (sn.add 16)) = _
    rw [accepts_lit h0, beq_eq_false_iff_ne.mpr (hp.resolve_left hq)]
    rfl
theorem e_at (hs : pc < C.size) (h0 : C.getD pc 0 = 6) (h1 : C.getD (pc + 1) 0 = 0) (hp : pos = 0)
    (k : ∀ sn, Ends N ⟨C, T, lim, start, ls, wt, ma, pc + 2, pos, hd, om, mk, lm, li, lo, inn, fr, w, none, sn, none⟩ P) :
    Ends (N + 1) ⟨C, T, lim, start, ls, wt, ma, pc, pos, hd, om, mk, lm, li, lo, inn, fr, w, none, sn, none⟩ P := by
  subst hp
  exact Ends.op _ rfl rfl hs h0 (fun F X => ⟨(sn.add 6).add 43, X.2.2.1 0 h1⟩) k
theorem e_atF (hs : pc < C.size) (h0 : C.getD pc 0 = 6) (h1 : C.getD (pc + 1) 0 = 0) (hp : pos ≠ 0)
    (k : ∀ sn, Ends N ⟨C, T, lim, start, ls, wt, ma, pc, pos, hd, om, mk, lm, li, lo, inn, fr, w, some false, sn, none⟩ P) :
    Ends (N + 1) ⟨C, T, lim, start, ls, wt, ma, pc, pos, hd, om, mk, lm, li, lo, inn, fr, w, none, sn, none⟩ P := by
  refine Ends.op _ rfl rfl hs h0 (fun F X => ⟨(sn.add 6).add 43, (X.2.2.1 0 h1).trans ?_⟩) k
  show placed _ 0 (.ok (pos == 0)) = _
  rw [beq_eq_false_iff_ne.mpr hp]
  rfl
theorem e_mark0 (hs : pc < C.size) (h0 : C.getD pc 0 = 17) (h1 : C.getD (pc + 1) 0 = 0)
    (k : ∀ sn, Ends N ⟨C, T, lim, start, ls, wt, ma, pc + 2, pos, hd, om, mk.setIfInBounds 0 (some pos), 0, li, lo, inn, fr, w, none, sn, none⟩ P) :
    Ends (N + 1) ⟨C, T, lim, start, ls, wt, ma, pc, pos, hd, om, mk, -1, li, lo, inn, fr, w, none, sn, none⟩ P := by
  exact Ends.op _ rfl rfl hs h0 (fun F X => ⟨sn.add 17, X.2.2.2.1 0 h1⟩) k
theorem e_mark1 (hs : pc < C.size) (h0 : C.getD pc 0 = 17) (h1 : C.getD (pc + 1) 0 = 1)
    (k : ∀ sn, Ends N ⟨C, T, lim, start, ls, wt, ma, pc + 2, pos, hd, om, mk.setIfInBounds 1 (some pos), 1, 1, lo, inn, fr, w, none, sn, none⟩ P) :
    Ends (N + 1) ⟨C, T, lim, start, ls, wt, ma, pc, pos, hd, om, mk, 0, li, lo, inn, fr, w, none, sn, none⟩ P := by
  exact Ends.op _ rfl rfl hs h0 (fun F X => ⟨sn.add 17, X.2.2.2.1 1 h1⟩) k
theorem e_success (hs : pc < C.size) (h0 : C.getD pc 0 = 1) (hw : (om && ((wt && pos != lim) || (ma && pos == start))) = false)
    (k : ∀ sn, Ends N ⟨C, T, lim, start, ls, wt, ma, pc, pos, pos, om, mk, lm, li, lo, inn, fr, w, some true, sn, none⟩ P) :
    Ends (N + 1) ⟨C, T, lim, start, ls, wt, ma, pc, pos, hd, om, mk, lm, li, lo, inn, fr, w, none, sn, none⟩ P := by
  exact Ends.op _ rfl rfl hs h0 (fun F X => ⟨sn.add 1, (X.2.2.2.2.1.trans (if_neg (by rw [hw]; exact Bool.false_ne_true)))⟩) k
theorem e_successF (hs : pc < C.size) (h0 : C.getD pc 0 = 1) (hw : (om && ((wt && pos != lim) || (ma && pos == start))) = true)
    (k : ∀ sn, Ends N ⟨C, T, lim, start, ls, wt, ma, pc, pos, hd, om, mk, lm, li, lo, inn, fr, w, some false, sn, none⟩ P) :
    Ends (N + 1) ⟨C, T, lim, start, ls, wt, ma, pc, pos, hd, om, mk, lm, li, lo, inn, fr, w, none, sn, none⟩ P := by
  exact Ends.op _ rfl rfl hs h0 (fun F X => ⟨sn.add 1, (X.2.2.2.2.1.trans (if_pos hw))⟩) k
theorem e_any (hs : pc < C.size) (h0 : C.getD pc 0 = 2) (hp : pos < lim) (hc : T.getD pos 0 ≠ 10)
    (k : ∀ sn, Ends N ⟨C, T, lim, start, ls, wt, ma, pc + 1, pos + 1, hd, om, mk, lm, li, lo, inn, fr, w, none, sn, none⟩ P) :
    Ends (N + 1) ⟨C, T, lim, start, ls, wt, ma, pc, pos, hd, om, mk, lm, li, lo, inn, fr, w, none, sn, none⟩ P := by
  refine Ends.op _ rfl rfl hs h0 (fun F X => ⟨sn.add 2, ((X.2.1 2 (.inr (.inl rfl)) hp).trans ?_)⟩) k
  show took _ (accepts C pc (T.getD pos 0) (sn.add 2)) = _
  rw [accepts_any h0, bne_iff_ne.mpr hc]
  exact took_yes (width_any h0)
/-- what one item of the code takes -/
noncomputable def Takes (C : Array Nat) (i c : Nat) (b : Bool) : Prop := ∀ sn, ∃ sn', accepts C i c sn = .ok (b, sn')
theorem e_in (hs : pc < C.size) (h0 : C.getD pc 0 = 13) (hp : pos < lim) (hc : Takes C pc (T.getD pos 0) true)
    (k : ∀ sn, Ends N ⟨C, T, lim, start, ls, wt, ma, pc + (1 + C.getD (pc + 1) 0), pos + 1, hd, om, mk, lm, li, lo, inn, fr, w, none, sn, none⟩ P) :
    Ends (N + 1) ⟨C, T, lim, start, ls, wt, ma, pc, pos, hd, om, mk, lm, li, lo, inn, fr, w, none, sn, none⟩ P := by
  obtain ⟨sn', hc⟩ := hc (sn.add 13)
  refine Ends.op _ rfl rfl hs h0 (fun F X => ⟨sn', ((X.2.1 13 (.inr (.inr rfl)) hp).trans ?_)⟩) k
  show took _ (accepts C pc (T.getD pos 0) (sn.add 13)) = _
  rw [hc]
  exact took_yes (width_in h0)
end

theorem run_is {C T : Array Nat} {i : Nat} : ∀ (j n p found : Nat) (sn : Seen), j ≤ n → (∀ q, q < j → Takes C i (T.getD (p + q) 0) true) → (j = n ∨ Takes C i (T.getD (p + j) 0) false) →
    ∃ sn', run C T i n p found sn = .ok (found + j, sn')
  | 0, 0, p, found, sn, _, _, _ => ⟨sn, rfl⟩
  | 0, n + 1, p, found, sn, _, _, h => by
    obtain ⟨sn', e⟩ := (h.resolve_left (by lia)) sn
    rw [Nat.add_zero] at e
    exact ⟨sn', by simp only [run, e]; rfl⟩
  | j + 1, 0, _, _, _, h, _, _ => absurd h (by lia)
  | j + 1, n + 1, p, found, sn, hj, h, h' => by
    obtain ⟨sn', e⟩ := h 0 (by lia) sn
    rw [Nat.add_zero] at e
    obtain ⟨sn2, e2⟩ := run_is j n (p + 1) (found + 1) sn' (by lia) (fun q hq => by have := h (q + 1) (by lia); rwa [show p + (q + 1) = p + 1 + q by lia] at this)
      (h'.imp (by lia) fun x => by rwa [show p + (j + 1) = p + 1 + j by lia] at x)
    exact ⟨sn2, by simp only [run, e]; rw [show found + (j + 1) = found + 1 + j by lia, ← e2]; rfl⟩
section
variable {C T : Array Nat} {lim start ls : Nat} {wt ma : Bool} {pc pos hd : Nat} {om : Bool} {mk : Array (Option Nat)} {lm li : Int} {lo : Array PySem.Sre.Loop} {inn : Option Nat} {fr : List PySem.Sre.Frame} {w : Nat} {sn : Seen} {N : Nat} {P : M → Prop}

noncomputable def keepOf (mk : Array (Option Nat)) (lm li : Int) (inn : Option Nat) : Kept :=
  { lastmark := lm, lastindex := li, whole := inn.isSome, marks := if inn.isSome then mk.extract 0 (lm + 1).toNat else #[] }
theorem keepOf_size (mk : Array (Option Nat)) (lm li : Int) (inn : Option Nat) : (keepOf mk lm li inn).marks.size ≤ mk.size := by
  unfold keepOf
  split
  · simp only [Array.size_extract]; lia
  · simp

theorem min_room {a b : Nat} (h : a < 4294967295) : min 4294967295 ((a : Int) - (b : Int)).toNat = a - b := by
  rw [Int.toNat_sub]
  exact Nat.min_eq_right (Nat.le_trans (Nat.sub_le _ _) (Nat.le_of_lt h))
/-- REPEAT_ONE, no upper bound, j characters -/
theorem e_rep (j : Nat) (hs : pc < C.size) (h0 : C.getD pc 0 = 24) (h3 : C.getD (pc + 3) 0 = 4294967295) (hp : pos + j ≤ lim) (hl : lim < 4294967295) (hm : C.getD (pc + 2) 0 ≤ j)
    (ht : ∀ q, q < j → Takes C (pc + 4) (T.getD (pos + q) 0) true) (hn : pos + j = lim ∨ Takes C (pc + 4) (T.getD (pos + j) 0) false) (hw : w + 1 + mk.size ≤ 16777216)
    (k : ∀ sn, Ends N ⟨C, T, lim, start, ls, wt, ma, pc + 1 + C.getD (pc + 1) 0, pos + j, pos + j, om, mk, lm, li, lo, inn,
      { wait := .giveBack, pc := pc, pos := pos + j, outermost := om, count := j, kept := keepOf mk lm li inn } :: fr, w + 1 + (keepOf mk lm li inn).marks.size, none, sn, none⟩ P) :
    Ends (N + 1) ⟨C, T, lim, start, ls, wt, ma, pc, pos, hd, om, mk, lm, li, lo, inn, fr, w, none, sn, none⟩ P := by
  have hmin : min 4294967295 ((lim : Int) - (pos : Int)).toNat = lim - pos := min_room hl
  obtain ⟨sn', e'⟩ := run_is (C := C) (T := T) (i := pc + 4) j (lim - pos) pos 0 ((sn.add 24).add (C.getD (pc + 4) 0)) (by clear hm ht hn hw k h3 hs h0 hmin; lia) ht (hn.imp (by clear hm ht hn hw k h3 hs h0 hmin; lia) id)
  rw [Nat.zero_add] at e'
  have hr : ¬ ((C.getD (pc + 2) 0 : Int) > (lim : Int) - (pos : Int)) := by clear hn hw h3 hs h0 hmin hl; lia
  refine Ends.op _ rfl rfl hs h0 (fun F X => ⟨sn', ((X.2.2.2.2.2.2.1 j sn' hr ?_).trans ?_)⟩) k
  · show run C T (pc + 4) (min (C.getD (pc + 3) 0) ((lim : Int) - (pos : Int)).toNat) pos 0 ((sn.add 24).add (C.getD (pc + 4) 0)) = _
    rw [h3, hmin]
    exact e'
  · refine (if_neg (Nat.not_lt_of_le hm)).trans ((if_neg ?_).trans rfl)
    exact Nat.not_lt_of_le (Nat.le_trans (Nat.add_le_add_left (keepOf_size mk lm li inn) (w + 1)) hw)
theorem e_repF (j : Nat) (hs : pc < C.size) (h0 : C.getD pc 0 = 24) (h3 : C.getD (pc + 3) 0 = 4294967295) (hp : pos + j ≤ lim) (hl : lim < 4294967295) (hm : j < C.getD (pc + 2) 0)
    (ht : ∀ q, q < j → Takes C (pc + 4) (T.getD (pos + q) 0) true) (hn : pos + j = lim ∨ Takes C (pc + 4) (T.getD (pos + j) 0) false)
    (k : ∀ sn, Ends N ⟨C, T, lim, start, ls, wt, ma, pc, pos, hd, om, mk, lm, li, lo, inn, fr, w, some false, sn, none⟩ P) :
    Ends (N + 1) ⟨C, T, lim, start, ls, wt, ma, pc, pos, hd, om, mk, lm, li, lo, inn, fr, w, none, sn, none⟩ P := by
  have hmin : min 4294967295 ((lim : Int) - (pos : Int)).toNat = lim - pos := min_room hl
  obtain ⟨sn', e'⟩ := run_is (C := C) (T := T) (i := pc + 4) j (lim - pos) pos 0 ((sn.add 24).add (C.getD (pc + 4) 0)) (by clear hm ht hn k h3 hs h0 hmin; lia) ht (hn.imp (by clear hm ht hn k h3 hs h0 hmin; lia) id)
  rw [Nat.zero_add] at e'
  by_cases hr : ((C.getD (pc + 2) 0 : Int) > (lim : Int) - (pos : Int))
  · exact Ends.op _ rfl rfl hs h0 (fun F X => ⟨_, (X.2.2.2.2.2.1 hr)⟩) k
  · refine Ends.op _ rfl rfl hs h0 (fun F X => ⟨sn', ((X.2.2.2.2.2.2.1 j sn' hr ?_).trans (if_pos (by exact hm)))⟩) k
    show run C T (pc + 4) (min (C.getD (pc + 3) 0) ((lim : Int) - (pos : Int)).toNat) pos 0 ((sn.add 24).add (C.getD (pc + 4) 0)) = _
    rw [h3, hmin]
    exact e'
/-- an answer, no frame left -/
theorem r_won : Ends (N + 1) ⟨C, T, lim, start, ls, wt, ma, pc, pos, hd, om, mk, lm, li, lo, inn, [], w, some true, sn, none⟩ (fun m => Won m start hd lm li mk) :=
  Ends.step rfl rfl (Ends.here rfl ⟨rfl, rfl, rfl, rfl, rfl, rfl⟩)
theorem r_lost : Ends (N + 1) ⟨C, T, lim, start, ls, wt, ma, pc, pos, hd, om, mk, lm, li, lo, inn, [], w, some false, sn, none⟩ Lost :=
  Ends.step rfl rfl (Ends.here rfl rfl)
noncomputable def Plain (f : PySem.Sre.Frame) : Prop := f.wait = .nextStart ∨ f.wait = .giveBack ∨ f.wait = .closeLoop ∨ f.wait = .maxMore ∨ f.wait = .maxTail
theorem r_unwind : ∀ (fr : List PySem.Sre.Frame) {pc pos : Nat} {om : Bool} {lo : Array PySem.Sre.Loop} {inn : Option Nat} {w : Nat} {sn : Seen}, (∀ f ∈ fr, Plain f) →
    Ends (fr.length + 1) ⟨C, T, lim, start, ls, wt, ma, pc, pos, hd, om, mk, lm, li, lo, inn, fr, w, some true, sn, none⟩ (fun m => Won m start hd lm li mk)
  | [], _, _, _, _, _, _, _, _ => r_won
  | f :: fr, _, _, _, _, _, _, _, h => by
    obtain ⟨wait, a, b, c, d, e, g, i⟩ := f
    rcases h _ (.head _) with rfl | rfl | rfl | rfl | rfl <;> exact Ends.step rfl rfl (r_unwind fr fun f hf => h f (.tail _ hf))
end
end Mine

end
section
open PySem.Sre
set_option linter.unusedSimpArgs false
set_option linter.unusedVariables false
namespace Mine
section
variable {C T : Array Nat} {lim start ls : Nat} {wt ma : Bool} {pc pos hd : Nat} {om : Bool} {mk : Array (Option Nat)} {lm li : Int} {lo : Array PySem.Sre.Loop} {inn : Option Nat} {fr : List PySem.Sre.Frame} {w : Nat} {sn : Seen} {N : Nat} {P : M → Prop}
  {fpc fpos : Nat} {fom : Bool} {fc : Int} {fk : Kept} {fl : Nat} {fb : Option Nat}

/-- a start that fails, the last one -/
theorem r_nextF_last (hl : ¬ fpos < ls)
    (k : ∀ sn, Ends N ⟨C, T, lim, start, ls, wt, ma, fpc, fpos, hd, fom, mk, lm, li, lo, inn, fr, w - (1 + fk.marks.size), some false, sn, none⟩ P) :
    Ends (N + 1) ⟨C, T, lim, start, ls, wt, ma, pc, pos, hd, om, mk, lm, li, lo, inn, ⟨.nextStart, fpc, fpos, fom, fc, fk, fl, fb⟩ :: fr, w, some false, sn, none⟩ P := by
  refine Ends.stepS _ rfl ⟨sn, ?_⟩ k
  simp only [M.step, Option.isSome_none, Bool.false_eq_true, if_false, M.resume, if_neg hl]
  rfl
/-- a start that fails, another behind it (no set of first characters) -/
theorem r_nextF (hl : fpos < ls) (hf : ∀ m : M, m.code = C → m.hasFirstSet = false) (hw : w ≤ 1000000)
    (k : ∀ sn, Ends N ⟨C, T, lim, fpos + 1, ls, wt, false, fpc, fpos + 1, fpos + 1, false, mk, -1, -1, lo, inn, ⟨.nextStart, fpc, fpos + 1, false, 0, {}, 0, none⟩ :: fr, w - (1 + fk.marks.size) + 1 + 0, none, sn, none⟩ P) :
    Ends (N + 1) ⟨C, T, lim, start, ls, wt, ma, pc, pos, hd, om, mk, lm, li, lo, inn, ⟨.nextStart, fpc, fpos, fom, fc, fk, fl, fb⟩ :: fr, w, some false, sn, none⟩ P := by
  refine Ends.stepS _ rfl ⟨sn, ?_⟩ k
  simp only [M.step, Option.isSome_none, Bool.false_eq_true, if_false, M.resume, if_pos hl, M.attemptFrom]
  rw [if_pos (by rw [hf _ rfl]; rfl)]
  simp only [M.attemptAt, M.attempt]
  rw [if_neg]
  · rfl
  · show ¬ (w - (1 + fk.marks.size) + 1 + 0 > 16777216)
    lia
theorem r_giveF_last (h : fc - 1 < C.getD (fpc + 2) 0)
    (k : ∀ sn, Ends N ⟨C, T, lim, start, ls, wt, ma, fpc, fpos, hd, fom, if fk.whole then fk.marks ++ mk.extract fk.marks.size mk.size else mk, fk.lastmark, fk.lastindex, lo, inn, fr, w - (1 + fk.marks.size), some false, sn, none⟩ P) :
    Ends (N + 1) ⟨C, T, lim, start, ls, wt, ma, pc, pos, hd, om, mk, lm, li, lo, inn, ⟨.giveBack, fpc, fpos, fom, fc, fk, fl, fb⟩ :: fr, w, some false, sn, none⟩ P := by
  refine Ends.stepS _ rfl ⟨sn, ?_⟩ k
  simp only [M.step, Option.isSome_none, Bool.false_eq_true, if_false, M.resume, M.word]
  refine Eq.trans (if_pos h) ?_
  rfl
theorem r_giveF (h : ¬ fc - 1 < C.getD (fpc + 2) 0) (hw : w ≤ 1000000) (hk : fk.marks.size ≤ 10)
    (k : ∀ sn, Ends N ⟨C, T, lim, start, ls, wt, ma, fpc + 1 + C.getD (fpc + 1) 0, fpos - 1, fpos - 1, fom, if fk.whole then fk.marks ++ mk.extract fk.marks.size mk.size else mk, fk.lastmark, fk.lastindex, lo, inn,
       ⟨.giveBack, fpc, fpos - 1, fom, fc - 1, fk, 0, none⟩ :: fr, w - (1 + fk.marks.size) + 1 + fk.marks.size, none, sn, none⟩ P) :
    Ends (N + 1) ⟨C, T, lim, start, ls, wt, ma, pc, pos, hd, om, mk, lm, li, lo, inn, ⟨.giveBack, fpc, fpos, fom, fc, fk, fl, fb⟩ :: fr, w, some false, sn, none⟩ P := by
  refine Ends.stepS _ rfl ⟨sn, ?_⟩ k
  simp only [M.step, Option.isSome_none, Bool.false_eq_true, if_false, M.resume, M.word]
  refine Eq.trans (if_neg h) ?_
  simp only [M.afterRun, M.attempt]
  rw [if_neg]
  · rfl
  · show ¬ (w - (1 + fk.marks.size) + 1 + fk.marks.size > 16777216)
    lia
/-- every later start fails at its beginning -/
theorem at_all (hs : fpc < C.size) (h0 : C.getD fpc 0 = 6) (h1 : C.getD (fpc + 1) 0 = 0) (hf : ∀ m : M, m.code = C → m.hasFirstSet = false) : ∀ (d : Nat) {start : Nat} {ma : Bool} {pc pos hd : Nat} {om : Bool} {lm li : Int} {w : Nat} {sn : Seen} {fpos : Nat} {fom : Bool} {fc : Int} {fk : Kept} {fl : Nat} {fb : Option Nat},
    ls ≤ fpos + d → w ≤ 1000000 → Ends (2 * d + 2) ⟨C, T, lim, start, ls, wt, ma, pc, pos, hd, om, mk, lm, li, lo, inn, [⟨.nextStart, fpc, fpos, fom, fc, fk, fl, fb⟩], w, some false, sn, none⟩ Lost
  | 0, _, _, _, _, _, _, _, _, _, _, _, _, _, _, _, _, h, _ => r_nextF_last (by lia) fun _ => r_lost
  | d + 1, _, _, _, _, _, _, _, _, w, _, fpos, _, _, fk, _, _, h, hw => by
    by_cases hl : fpos < ls
    · refine (r_nextF (N := 2 * d + 3) hl hf hw fun _ => e_atF hs h0 h1 (by lia) fun _ => at_all hs h0 h1 hf d (by lia) (by lia)).mono (by lia)
    · exact (r_nextF_last (N := 1) hl fun _ => r_lost).mono (by lia)
end
end Mine

end
section
open PySem.Sre
set_option linter.unusedSimpArgs false
set_option linter.unusedVariables false
namespace Mine
noncomputable def CT : Array Nat := #[14, 4, 0, 1, 4294967295, 6, 0, 24, 9, 0, 4294967295, 13, 4, 8, 12, 0, 1, 17, 0, 24, 19, 1, 4294967295, 13, 14, 21, 9, 0, 671092736, 0, 0, 0, 0, 0, 0, 8, 12, 0, 1, 17, 1, 1]
noncomputable def CQ : Array Nat := #[14, 4, 0, 3, 4294967295, 6, 0, 24, 9, 0, 4294967295, 13, 4, 8, 12, 0, 1, 16, 61, 24, 9, 0, 4294967295, 13, 4, 8, 12, 0, 1, 16, 34, 17, 0, 24, 12, 0, 4294967295, 13, 7, 21, 16, 34, 16, 92, 0, 1, 23, 19, 0, 4294967295, 16, 92, 2, 24, 12, 0, 4294967295, 13, 7, 21, 16, 34, 16, 92, 0, 1, 18, 17, 1, 16, 34, 1]
noncomputable def CV : Array Nat := #[14, 4, 0, 1, 4294967295, 6, 0, 24, 9, 0, 4294967295, 13, 4, 8, 12, 0, 1, 16, 61, 24, 9, 0, 4294967295, 13, 4, 8, 12, 0, 1, 17, 0, 24, 14, 0, 4294967295, 13, 9, 21, 8, 12, 16, 59, 16, 44, 0, 1, 17, 1, 1]
noncomputable def CE : Array Nat := #[14, 8, 1, 2, 2, 1, 1, 92, 0, 16, 92, 17, 0, 2, 17, 1, 1]
noncomputable def CJT : Array Nat := #[14, 4, 0, 1, 4294967295, 24, 16, 1, 4294967295, 13, 11, 9, 0, 67071226, 3355443198, 1476395007, 0, 0, 0, 0, 0, 1, 1]
noncomputable def CJE : Array Nat := #[14, 9, 4, 1, 1, 16, 34, 16, 92, 0, 17, 0, 13, 6, 16, 34, 16, 92, 0, 17, 1, 1]
noncomputable def CW : Array Nat := #[14, 4, 0, 0, 4294967295, 6, 0, 24, 13, 0, 4294967295, 13, 8, 16, 61, 8, 12, 16, 59, 0, 1, 1]

noncomputable def sp (c : Nat) : Bool := PySem.Unicode.isSpace c
noncomputable def tokc (c : Nat) : Bool := !((c < 256 && (CT.getD (26 + 1 + c / 32) 0).testBit (c % 32)) || sp c)
noncomputable def valc (c : Nat) : Bool := !(sp c || c == 59 || c == 44)
noncomputable def quoc (c : Nat) : Bool := !(c == 34 || c == 92)
noncomputable def junk (c : Nat) : Bool := c == 61 || sp c || c == 59
noncomputable def jtok (c : Nat) : Bool := c < 256 && (CJT.getD (11 + 1 + c / 32) 0).testBit (c % 32)
noncomputable def esc2 (c : Nat) : Bool := c == 34 || c == 92

theorem category12 (c : Nat) : category 12 c = .ok (sp c) := by
  unfold category
  show Except.map _ (Except.ok (PySem.Unicode.isSpace c)) = _
  simp only [Except.map, sp]
  cases PySem.Unicode.isSpace c <;> rfl

theorem takes_space {C : Array Nat} {i : Nat} (h0 : C.getD i 0 = 13) (h2 : C.getD (i + 2) 0 = 8) (h3 : C.getD (i + 3) 0 = 12) (h4 : C.getD (i + 4) 0 = 0) (hs : 2 ≤ C.size) (c : Nat) : Takes C i c (sp c) := by
  intro sn
  unfold accepts
  simp only [h0, show (ops[13]? : Option Op) = some .IN from rfl]
  obtain ⟨n, hn⟩ : ∃ n, C.size = n + 2 := ⟨C.size - 2, by lia⟩
  rw [hn]
  unfold inSet
  simp only [Nat.add_zero, h2, show i + 2 + 1 = i + 3 from rfl, h3, show (ops[8]? : Option Op) = some .CATEGORY from rfl, category12]
  cases hq : sp c with
  | true => exact ⟨_, rfl⟩
  | false =>
    unfold inSet
    simp only [Nat.add_zero, show i + 2 + 2 = i + 4 from rfl, h4, show (ops[0]? : Option Op) = some .FAILURE from rfl]
    exact ⟨_, rfl⟩
theorem takes_T7 (c : Nat) : Takes CT 11 c (sp c) := takes_space rfl rfl rfl rfl (by decide) c
theorem takes_Q7 (c : Nat) : Takes CQ 11 c (sp c) := takes_space rfl rfl rfl rfl (by decide) c
theorem takes_Q23 (c : Nat) : Takes CQ 23 c (sp c) := takes_space rfl rfl rfl rfl (by decide) c
theorem takes_V7 (c : Nat) : Takes CV 11 c (sp c) := takes_space rfl rfl rfl rfl (by decide) c
theorem takes_V23 (c : Nat) : Takes CV 23 c (sp c) := takes_space rfl rfl rfl rfl (by decide) c
theorem ite_both {b : Bool} {α : Type} {p q : α} {P : α → Prop} (h : b = true → P p) (h' : b = false → P q) : P (if b = true then p else q) := by
  cases b
  · exact h' rfl
  · exact h rfl
theorem takes_T23 (c : Nat) : Takes CT 23 c (tokc c) := by
  intro sn
  unfold accepts
  show ∃ sn', inSet CT c 42 25 true sn = .ok (_, sn')
  unfold inSet
  show ∃ sn', inSet CT c 41 26 false _ = .ok (_, sn')
  unfold inSet
  simp only [show (ops[CT.getD (26 + 0) 0]? : Option Op) = some .CHARSET from rfl]
  cases h1 : (decide (c < 256) && (CT.getD (26 + (1 + c / 32)) 0).testBit (c % 32)) with
  | true =>
    rw [if_pos rfl]
    unfold tokc
    rw [show 26 + 1 + c / 32 = 26 + (1 + c / 32) by lia, h1]
    exact ⟨_, rfl⟩
  | false =>
    rw [if_neg Bool.false_ne_true]
    unfold inSet
    simp only [show (ops[CT.getD (26 + 9 + 0) 0]? : Option Op) = some .CATEGORY from rfl, show CT.getD (26 + 9 + 1) 0 = 12 from rfl, category12]
    unfold tokc
    rw [show 26 + 1 + c / 32 = 26 + (1 + c / 32) by lia, h1]
    cases hq : sp c with
    | true => exact ⟨_, rfl⟩
    | false =>
      unfold inSet
      exact ⟨_, rfl⟩
theorem takes_V35 (c : Nat) : Takes CV 35 c (valc c) := by
  intro sn
  unfold accepts
  show ∃ sn', inSet CV c 49 37 true sn = .ok (_, sn')
  unfold inSet
  show ∃ sn', inSet CV c 48 38 false _ = .ok (_, sn')
  unfold inSet
  simp only [show (ops[CV.getD (38 + 0) 0]? : Option Op) = some .CATEGORY from rfl, show CV.getD (38 + 1) 0 = 12 from rfl, category12]
  unfold valc
  cases hq : sp c with
  | true => exact ⟨_, rfl⟩
  | false =>
    show ∃ sn', inSet CV c 47 40 false _ = .ok (_, sn')
    unfold inSet
    simp only [show (ops[CV.getD (40 + 0) 0]? : Option Op) = some .LITERAL from rfl, show CV.getD (40 + 1) 0 = 59 from rfl]
    cases h1 : c == 59 with
    | true => exact ⟨_, rfl⟩
    | false =>
      show ∃ sn', inSet CV c 46 42 false _ = .ok (_, sn')
      unfold inSet
      simp only [show (ops[CV.getD (42 + 0) 0]? : Option Op) = some .LITERAL from rfl, show CV.getD (42 + 1) 0 = 44 from rfl]
      cases h2 : c == 44 with
      | true => exact ⟨_, rfl⟩
      | false =>
        show ∃ sn', inSet CV c 45 44 false _ = .ok (_, sn')
        unfold inSet
        exact ⟨_, rfl⟩
theorem takes_quo {i : Nat} (hi : CQ.getD i 0 = 13) (h2 : CQ.getD (i + 2) 0 = 21) (h3 : CQ.getD (i + 3) 0 = 16) (h4 : CQ.getD (i + 4) 0 = 34) (h5 : CQ.getD (i + 5) 0 = 16) (h6 : CQ.getD (i + 6) 0 = 92) (h7 : CQ.getD (i + 7) 0 = 0) (c : Nat) : Takes CQ i c (quoc c) := by
  intro sn
  unfold accepts
  simp only [hi, show (ops[13]? : Option Op) = some .IN from rfl]
  show ∃ sn', inSet CQ c 72 (i + 2) true sn = .ok (_, sn')
  unfold inSet
  simp only [Nat.add_zero, h2, show (ops[21]? : Option Op) = some .NEGATE from rfl]
  unfold inSet
  simp only [Nat.add_zero, show i + 2 + 1 = i + 3 from rfl, h3, show i + 3 + 1 = i + 4 from rfl, h4, show (ops[16]? : Option Op) = some .LITERAL from rfl]
  unfold quoc
  cases h1 : c == 34 with
  | true => exact ⟨_, rfl⟩
  | false =>
    rw [if_neg Bool.false_ne_true]
    unfold inSet
    simp only [Nat.add_zero, show i + 3 + 2 = i + 5 from rfl, h5, show i + 5 + 1 = i + 6 from rfl, h6, show (ops[16]? : Option Op) = some .LITERAL from rfl]
    cases h2 : c == 92 with
    | true => exact ⟨_, rfl⟩
    | false =>
      rw [if_neg Bool.false_ne_true]
      unfold inSet
      simp only [Nat.add_zero, show i + 5 + 2 = i + 7 from rfl, h7, show (ops[0]? : Option Op) = some .FAILURE from rfl]
      exact ⟨_, rfl⟩
theorem takes_Q37 (c : Nat) : Takes CQ 37 c (quoc c) := takes_quo rfl rfl rfl rfl rfl rfl rfl c
theorem takes_Q57 (c : Nat) : Takes CQ 57 c (quoc c) := takes_quo rfl rfl rfl rfl rfl rfl rfl c
theorem takes_W11 (c : Nat) : Takes CW 11 c (junk c) := by
  intro sn
  unfold accepts
  show ∃ sn', inSet CW c 22 13 true sn = .ok (_, sn')
  unfold inSet
  simp only [show (ops[CW.getD (13 + 0) 0]? : Option Op) = some .LITERAL from rfl, show CW.getD (13 + 1) 0 = 61 from rfl]
  unfold junk
  cases h1 : c == 61 with
  | true => exact ⟨_, rfl⟩
  | false =>
    show ∃ sn', inSet CW c 21 15 true _ = .ok (_, sn')
    unfold inSet
    simp only [show (ops[CW.getD (15 + 0) 0]? : Option Op) = some .CATEGORY from rfl, show CW.getD (15 + 1) 0 = 12 from rfl, category12]
    cases hq : sp c with
    | true => exact ⟨_, rfl⟩
    | false =>
      show ∃ sn', inSet CW c 20 17 true _ = .ok (_, sn')
      unfold inSet
      simp only [show (ops[CW.getD (17 + 0) 0]? : Option Op) = some .LITERAL from rfl, show CW.getD (17 + 1) 0 = 59 from rfl]
      cases h2 : c == 59 with
      | true => exact ⟨_, rfl⟩
      | false =>
        show ∃ sn', inSet CW c 19 19 true _ = .ok (_, sn')
        unfold inSet
        exact ⟨_, rfl⟩
theorem takes_J9 (c : Nat) : Takes CJT 9 c (jtok c) := by
  intro sn
  unfold accepts
  show ∃ sn', inSet CJT c 23 11 true sn = .ok (_, sn')
  unfold inSet
  simp only [show (ops[CJT.getD (11 + 0) 0]? : Option Op) = some .CHARSET from rfl]
  unfold jtok
  rw [show 11 + 1 + c / 32 = 11 + (1 + c / 32) by lia]
  cases h1 : (decide (c < 256) && (CJT.getD (11 + (1 + c / 32)) 0).testBit (c % 32)) with
  | true => exact ⟨_, rfl⟩
  | false =>
    rw [if_neg Bool.false_ne_true]
    unfold inSet
    exact ⟨_, rfl⟩
/-- the two marks that are escaped, at the head's set and in the body -/
theorem set_E {i : Nat} (n : Nat) (h3 : CJE.getD i 0 = 16) (h4 : CJE.getD (i + 1) 0 = 34) (h5 : CJE.getD (i + 2) 0 = 16) (h6 : CJE.getD (i + 3) 0 = 92) (h7 : CJE.getD (i + 4) 0 = 0) (c : Nat) (sn : Seen) : ∃ sn', inSet CJE c (n + 3) i true sn = .ok (esc2 c, sn') := by
  unfold inSet
  simp only [Nat.add_zero, h3, h4, show (ops[16]? : Option Op) = some .LITERAL from rfl]
  unfold esc2
  cases h1 : c == 34 with
  | true => exact ⟨_, rfl⟩
  | false =>
    rw [if_neg Bool.false_ne_true]
    unfold inSet
    simp only [Nat.add_zero, h5, show i + 2 + 1 = i + 3 from rfl, h6, show (ops[16]? : Option Op) = some .LITERAL from rfl]
    cases h2 : c == 92 with
    | true => exact ⟨_, rfl⟩
    | false =>
      rw [if_neg Bool.false_ne_true]
      unfold inSet
      simp only [Nat.add_zero, show i + 2 + 2 = i + 4 from rfl, h7, show (ops[0]? : Option Op) = some .FAILURE from rfl]
      exact ⟨_, rfl⟩
theorem takes_E12 (c : Nat) : Takes CJE 12 c (esc2 c) := by
  intro sn
  unfold accepts
  exact set_E (i := 14) 19 rfl rfl rfl rfl rfl c sn
end Mine

end
section
open PySem.Sre
set_option linter.unusedSimpArgs false
set_option linter.unusedVariables false
namespace Mine
section
variable {T : Array Nat}
noncomputable abbrev next0 (pc : Nat) : PySem.Sre.Frame := ⟨.nextStart, pc, 0, true, 0, {}, 0, none⟩

theorem fs_T (h : ¬ (T.size < 1)) : ∃ sn, forSearch CT T 1 0 T.size false = ⟨CT, T, T.size, 0, T.size, false, false, 5, 0, 0, true, Array.replicate (2 * 1) none, -1, -1, #[], none, [next0 5], 1, none, sn, none⟩ := by
  unfold forSearch
  refine ⟨({} : Seen).add 14, Eq.trans (if_neg ?_) ?_⟩
  · show ¬ ((decide (0 > T.size) || decide (T.size - 0 < 1)) = true)
    simp only [Bool.or_eq_true, decide_eq_true_eq]
    lia
  · rfl
theorem fs_shortT {pos : Nat} {ma : Bool} (h : pos > T.size ∨ T.size - pos < 1) : Ends 1 (forSearch CT T 1 pos T.size ma) Lost := by
  unfold forSearch
  have e : (decide (pos > T.size) || decide (T.size - pos < 1)) = true := by simpa using h
  refine Ends.step (m' := _) ?_ rfl (Ends.here ?_ ?_)
  · show M.outcome (if (decide (pos > T.size) || decide (T.size - pos < 1)) = true then _ else _) = none
    rw [if_pos e]; rfl
  · show (M.outcome (M.step (if (decide (pos > T.size) || decide (T.size - pos < 1)) = true then _ else _))).isSome = true
    rw [if_pos e]; rfl
  · show M.outcome (M.step (if (decide (pos > T.size) || decide (T.size - pos < 1)) = true then _ else _)) = _
    rw [if_pos e]; rfl
theorem fs_Q (h : ¬ (T.size < 3)) : ∃ sn, forSearch CQ T 1 0 T.size false = ⟨CQ, T, T.size, 0, max 0 (T.size - 2), false, false, 5, 0, 0, true, Array.replicate (2 * 1) none, -1, -1, #[], none, [next0 5], 1, none, sn, none⟩ := by
  unfold forSearch
  refine ⟨({} : Seen).add 14, Eq.trans (if_neg ?_) ?_⟩
  · show ¬ ((decide (0 > T.size) || decide (T.size - 0 < 3)) = true)
    simp only [Bool.or_eq_true, decide_eq_true_eq]
    lia
  · rfl
theorem fs_shortQ {pos : Nat} {ma : Bool} (h : pos > T.size ∨ T.size - pos < 3) : Ends 1 (forSearch CQ T 1 pos T.size ma) Lost := by
  unfold forSearch
  have e : (decide (pos > T.size) || decide (T.size - pos < 3)) = true := by simpa using h
  refine Ends.step (m' := _) ?_ rfl (Ends.here ?_ ?_)
  · show M.outcome (if (decide (pos > T.size) || decide (T.size - pos < 3)) = true then _ else _) = none
    rw [if_pos e]; rfl
  · show (M.outcome (M.step (if (decide (pos > T.size) || decide (T.size - pos < 3)) = true then _ else _))).isSome = true
    rw [if_pos e]; rfl
  · show M.outcome (M.step (if (decide (pos > T.size) || decide (T.size - pos < 3)) = true then _ else _)) = _
    rw [if_pos e]; rfl
theorem fs_V (h : ¬ (T.size < 1)) : ∃ sn, forSearch CV T 1 0 T.size false = ⟨CV, T, T.size, 0, T.size, false, false, 5, 0, 0, true, Array.replicate (2 * 1) none, -1, -1, #[], none, [next0 5], 1, none, sn, none⟩ := by
  unfold forSearch
  refine ⟨({} : Seen).add 14, Eq.trans (if_neg ?_) ?_⟩
  · show ¬ ((decide (0 > T.size) || decide (T.size - 0 < 1)) = true)
    simp only [Bool.or_eq_true, decide_eq_true_eq]
    lia
  · rfl
theorem fs_shortV {pos : Nat} {ma : Bool} (h : pos > T.size ∨ T.size - pos < 1) : Ends 1 (forSearch CV T 1 pos T.size ma) Lost := by
  unfold forSearch
  have e : (decide (pos > T.size) || decide (T.size - pos < 1)) = true := by simpa using h
  refine Ends.step (m' := _) ?_ rfl (Ends.here ?_ ?_)
  · show M.outcome (if (decide (pos > T.size) || decide (T.size - pos < 1)) = true then _ else _) = none
    rw [if_pos e]; rfl
  · show (M.outcome (M.step (if (decide (pos > T.size) || decide (T.size - pos < 1)) = true then _ else _))).isSome = true
    rw [if_pos e]; rfl
  · show M.outcome (M.step (if (decide (pos > T.size) || decide (T.size - pos < 1)) = true then _ else _)) = _
    rw [if_pos e]; rfl
theorem fs_W (h : ¬ (T.size < 0)) : ∃ sn, forSearch CW T 0 0 T.size false = ⟨CW, T, T.size, 0, T.size, false, false, 5, 0, 0, true, Array.replicate (2 * 0) none, -1, -1, #[], none, [next0 5], 1, none, sn, none⟩ := by
  unfold forSearch
  refine ⟨({} : Seen).add 14, Eq.trans (if_neg ?_) ?_⟩
  · show ¬ ((decide (0 > T.size) || decide (T.size - 0 < 0)) = true)
    simp only [Bool.or_eq_true, decide_eq_true_eq]
    lia
  · rfl
theorem fs_shortW {pos : Nat} {ma : Bool} (h : pos > T.size ∨ T.size - pos < 0) : Ends 1 (forSearch CW T 0 pos T.size ma) Lost := by
  unfold forSearch
  have e : (decide (pos > T.size) || decide (T.size - pos < 0)) = true := by simpa using h
  refine Ends.step (m' := _) ?_ rfl (Ends.here ?_ ?_)
  · show M.outcome (if (decide (pos > T.size) || decide (T.size - pos < 0)) = true then _ else _) = none
    rw [if_pos e]; rfl
  · show (M.outcome (M.step (if (decide (pos > T.size) || decide (T.size - pos < 0)) = true then _ else _))).isSome = true
    rw [if_pos e]; rfl
  · show M.outcome (M.step (if (decide (pos > T.size) || decide (T.size - pos < 0)) = true then _ else _)) = _
    rw [if_pos e]; rfl
theorem nf_T : ∀ m : M, m.code = CT → m.hasFirstSet = false := fun m h => by unfold M.hasFirstSet; rw [h]; rfl
theorem nf_Q : ∀ m : M, m.code = CQ → m.hasFirstSet = false := fun m h => by unfold M.hasFirstSet; rw [h]; rfl
theorem nf_V : ∀ m : M, m.code = CV → m.hasFirstSet = false := fun m h => by unfold M.hasFirstSet; rw [h]; rfl
theorem nf_W : ∀ m : M, m.code = CW → m.hasFirstSet = false := fun m h => by unfold M.hasFirstSet; rw [h]; rfl
theorem nf_E : ∀ m : M, m.code = CE → m.hasFirstSet = false := fun m h => by unfold M.hasFirstSet; rw [h]; rfl

theorem plain_give {pc pos : Nat} {om : Bool} {c : Int} {k : Kept} {l : Nat} {b : Option Nat} : Plain ⟨.giveBack, pc, pos, om, c, k, l, b⟩ := .inr (.inl rfl)
theorem plain_next {pc pos : Nat} {om : Bool} {c : Int} {k : Kept} {l : Nat} {b : Option Nat} : Plain ⟨.nextStart, pc, pos, om, c, k, l, b⟩ := .inl rfl
theorem plain_close {pc pos : Nat} {om : Bool} {c : Int} {k : Kept} {l : Nat} {b : Option Nat} : Plain ⟨.closeLoop, pc, pos, om, c, k, l, b⟩ := .inr (.inr (.inl rfl))
theorem plain_more {pc pos : Nat} {om : Bool} {c : Int} {k : Kept} {l : Nat} {b : Option Nat} : Plain ⟨.maxMore, pc, pos, om, c, k, l, b⟩ := .inr (.inr (.inr (.inl rfl)))
theorem plain_tail {pc pos : Nat} {om : Bool} {c : Int} {k : Kept} {l : Nat} {b : Option Nat} : Plain ⟨.maxTail, pc, pos, om, c, k, l, b⟩ := .inr (.inr (.inr (.inr rfl)))

/-- a token at the head -/
theorem tok_won (j n : Nat) (hz : T.size ≤ 100000) (hj : ∀ q, q < j → sp (T.getD q 0) = true) (hn : 0 < n) (ht : ∀ q, q < n → tokc (T.getD (j + q) 0) = true) (hl : j + n ≤ T.size)
    (he : j + n = T.size ∨ tokc (T.getD (j + n) 0) = false) :
    Ends 20 (forSearch CT T 1 0 T.size false) (fun m => Won m 0 (j + n) 1 1 #[some j, some (j + n)]) := by
  obtain ⟨sn, e⟩ := fs_T (T := T) (by lia)
  rw [e]
  have hsp : sp (T.getD j 0) = false := by
    have := ht 0 hn
    rw [Nat.add_zero] at this
    unfold tokc at this
    cases q : sp (T.getD j 0) with
    | false => rfl
    | true => rw [q] at this; simp at this
  refine e_at (N := 19) (by decide) rfl rfl rfl fun sn => ?_
  refine e_rep (N := 18) j (by decide) rfl rfl (by lia) (by lia) (Nat.zero_le _) (fun q hq => ?_) (.inr ?_) (by show 1 + 1 + 2 ≤ 16777216; lia) fun sn => ?_
  · rw [Nat.zero_add]; have := takes_T7 (T.getD q 0); rwa [hj q hq] at this
  · rw [Nat.zero_add]; have := takes_T7 (T.getD j 0); rwa [hsp] at this
  refine e_mark0 (N := 17) (by decide) rfl rfl fun sn => ?_
  rw [Nat.zero_add]
  refine e_rep (N := 16) n (by decide) rfl rfl (by lia) (by lia) hn (fun q hq => ?_) (he.imp (by lia) fun h => ?_) (by show 1 + 1 + 0 + 1 + 2 ≤ 16777216; lia) fun sn => ?_
  · have := takes_T23 (T.getD (j + q) 0); rwa [ht q hq] at this
  · have := takes_T23 (T.getD (j + n) 0); rwa [h] at this
  refine e_mark1 (N := 15) (by decide) rfl rfl fun sn => ?_
  refine e_success (N := 14) (by decide) rfl rfl fun sn => ?_
  exact (r_unwind (C := CT) (T := T) _ (by
    intro f hf
    rcases hf with _ | ⟨_, _ | ⟨_, _ | ⟨_, hf⟩⟩⟩
    · exact plain_give
    · exact plain_give
    · exact plain_next
    · cases hf)).mono (by show 4 ≤ 14; lia)
/-- no token at the head, and no blank -/
theorem tok_lost (hz : T.size ≤ 100000) (hs : sp (T.getD 0 0) = false) (ht : tokc (T.getD 0 0) = false) : Ends (2 * T.size + 10) (forSearch CT T 1 0 T.size false) Lost := by
  by_cases h0 : T.size < 1
  · exact (fs_shortT (.inr (by lia))).mono (by lia)
  obtain ⟨sn, e⟩ := fs_T (T := T) (by lia)
  rw [e]
  refine e_at (N := 2 * T.size + 9) (by decide) rfl rfl rfl fun sn => ?_
  refine e_rep (N := 2 * T.size + 8) 0 (by decide) rfl rfl (by lia) (by lia) (Nat.zero_le _) (fun q hq => absurd hq (by lia)) (.inr ?_) (by show 1 + 1 + 2 ≤ 16777216; lia) fun sn => ?_
  · have := takes_T7 (T.getD 0 0); rwa [hs] at this
  refine e_mark0 (N := 2 * T.size + 7) (by decide) rfl rfl fun sn => ?_
  refine e_repF (N := 2 * T.size + 6) 0 (by decide) rfl rfl (by lia) (by lia) (by decide) (fun q hq => absurd hq (by lia)) (.inr ?_) fun sn => ?_
  · have := takes_T23 (T.getD 0 0); rwa [ht] at this
  refine r_giveF_last (N := 2 * T.size + 5) (by decide) fun sn => ?_
  exact (at_all (C := CT) (T := T) (by decide) rfl rfl nf_T T.size (by lia) (by decide)).mono (by lia)
end
end Mine

end
section
open PySem.Sre
set_option linter.unusedSimpArgs false
set_option linter.unusedVariables false
namespace Mine
section
variable {C T : Array Nat} {lim start ls : Nat} {wt ma : Bool} {pc pos hd : Nat} {om : Bool} {mk : Array (Option Nat)} {lm li : Int} {lo : Array PySem.Sre.Loop} {inn : Option Nat} {fr : List PySem.Sre.Frame} {w : Nat} {sn : Seen} {N : Nat} {P : M → Prop}
  {fpc fpos : Nat} {fom : Bool} {fc : Int} {fk : Kept} {fl : Nat} {fb : Option Nat} {lpc : Nat} {cnt : Int} {beg outr : Option Nat}

theorem e_repeat (hs : pc < C.size) (h0 : C.getD pc 0 = 23) (hw : w ≤ 1000000)
    (k : ∀ sn, Ends N ⟨C, T, lim, start, ls, wt, ma, pc + 1 + C.getD (pc + 1) 0, pos, pos, om, mk, lm, li, #[⟨pc, -1, none, none⟩], some 0,
      ⟨.closeLoop, pc, pos, om, 0, {}, 0, none⟩ :: fr, w + 1 + 0, none, sn, none⟩ P) :
    Ends (N + 1) ⟨C, T, lim, start, ls, wt, ma, pc, pos, hd, om, mk, lm, li, #[], none, fr, w, none, sn, none⟩ P := by
  refine Ends.op _ rfl rfl hs h0 (fun F X => ⟨sn.add 23, X.2.2.2.2.2.2.2.1.trans ((if_neg ?_).trans rfl)⟩) k
  exact Nat.not_lt_of_le (Nat.succ_le_succ (Nat.le_trans hw (by decide : 1000000 ≤ 16777215)))
theorem e_until (hs : pc < C.size) (h0 : C.getD pc 0 = 18) (h2 : C.getD (lpc + 2) 0 = 0) (h3 : C.getD (lpc + 3) 0 = 4294967295) (hc : -1 ≤ cnt) (hb : beg ≠ some pos) (hw : w ≤ 1000000) (hk : mk.size ≤ 10)
    (k : ∀ sn, Ends N ⟨C, T, lim, start, ls, wt, ma, lpc + 4, pos, pos, om, mk, lm, li, #[⟨lpc, cnt + 1, some pos, outr⟩], some 0,
      ⟨.maxMore, pc + 1, pos, om, cnt + 1, keepOf mk lm li (some 0), 0, beg⟩ :: fr, w + 1 + (keepOf mk lm li (some 0)).marks.size, none, sn, none⟩ P) :
    Ends (N + 1) ⟨C, T, lim, start, ls, wt, ma, pc, pos, hd, om, mk, lm, li, #[⟨lpc, cnt, beg, outr⟩], some 0, fr, w, none, sn, none⟩ P := by
  have hks := keepOf_size mk lm li (some 0)
  refine Ends.op _ rfl rfl hs h0 (fun F X => ⟨sn.add 18, X.2.2.2.2.2.2.2.2.trans ?_⟩) k
  simp only [M.until_, M.loopAt]
  simp only [show (#[(⟨lpc, cnt, beg, outr⟩ : PySem.Sre.Loop)].getD 0 { pc := 0, outer := none }) = ⟨lpc, cnt, beg, outr⟩ from rfl, h2, h3]
  rw [if_neg (by lia)]
  rw [if_neg (by simp)]
  have hbb : (beg != some pos) = true := by simpa using hb
  rw [if_pos (by rw [hbb]; simp [maxRepeat])]
  simp only [M.round, M.setLoop, M.attempt, M.loopAt, M.frame]
  simp only [show (#[(⟨lpc, cnt, beg, outr⟩ : PySem.Sre.Loop)].getD 0 { pc := 0, outer := none }) = ⟨lpc, cnt, beg, outr⟩ from rfl]
  refine Eq.trans (if_neg ?_) ?_
  · show ¬ (w + 1 + (keepOf mk lm li (some 0)).marks.size > 16777216)
    lia
  · rfl
theorem r_moreF (hw : w ≤ 1000000)
    (k : ∀ sn, Ends N ⟨C, T, lim, start, ls, wt, ma, fpc, fpos, fpos, fom, fk.marks ++ mk.extract fk.marks.size mk.size, fk.lastmark, fk.lastindex, #[⟨lpc, fc - 1, fb, outr⟩], outr,
      ⟨.maxTail, fpc, fpos, fom, fc, { lastmark := fk.lastmark, lastindex := fk.lastindex, whole := false, marks := #[] }, 0, none⟩ :: fr, w - (1 + fk.marks.size) + 1 + 0, none, sn, none⟩ P)
    (hwh : fk.whole = true) :
    Ends (N + 1) ⟨C, T, lim, start, ls, wt, ma, pc, pos, hd, om, mk, lm, li, #[⟨lpc, cnt, beg, outr⟩], inn, ⟨.maxMore, fpc, fpos, fom, fc, fk, 0, fb⟩ :: fr, w, some false, sn, none⟩ P := by
  refine Ends.stepS _ rfl ⟨sn, ?_⟩ k
  simp only [M.step, Option.isSome_none, Bool.false_eq_true, if_false, M.resume, M.setLoop, M.putBack, M.afterLoop, M.attempt, M.frame, hwh, if_true]
  refine Eq.trans (if_neg ?_) ?_
  · show ¬ (w - (1 + fk.marks.size) + 1 + 0 > 16777216)
    lia
  · rfl

/-- what stands between two quotation marks, behind the first run: escapes with their runs, then the closing mark -/
inductive Escs (T : Array Nat) : Nat → Nat → Nat → Prop
  | done {e : Nat} : e < T.size → T.getD e 0 = 34 → Escs T e e 0
  | more {p e k : Nat} (j : Nat) : T.getD p 0 = 92 → T.getD (p + 1) 0 ≠ 10 → (∀ q, q < j → quoc (T.getD (p + 2 + q) 0) = true) → quoc (T.getD (p + 2 + j) 0) = false → p + 2 + j < T.size →
      Escs T (p + 2 + j) e k → Escs T p e (k + 1)
end
theorem Escs.lt {T : Array Nat} {p e k : Nat} (h : Escs T p e k) : p < T.size := by
  cases h with
  | done h _ => exact h
  | more j _ _ _ _ h _ => lia
section
variable {T : Array Nat} {start ls : Nat} {mk : Array (Option Nat)}
theorem quo_loop {p e k : Nat} (H : Escs T p e k) : ∀ {li : Int} {hd w : Nat} {sn : Seen} {cnt : Int} {beg : Option Nat} {fr : List PySem.Sre.Frame}, T.size ≤ 100000 → mk.size ≤ 2 → w + 10 * k ≤ 990000 → (∀ f ∈ fr, Plain f) → -1 ≤ cnt → beg ≠ some p →
    Ends (12 * k + fr.length + 12) ⟨CQ, T, T.size, start, ls, false, false, 66, p, hd, true, mk, 0, li, #[⟨46, cnt, beg, none⟩], some 0, fr, w, none, sn, none⟩
      (fun m => Won m start (e + 1) 1 1 (mk.setIfInBounds 1 (some e))) := by
  induction H with
  | @done e he h34 =>
    intro li hd w sn cnt beg fr hz hk hw hp hc hb
    have hks := keepOf_size mk 0 li (some 0)
    refine (e_until (N := fr.length + 11) (by decide) rfl rfl rfl hc hb (by lia) (by lia) fun sn => ?_).mono (by lia)
    refine e_litF (N := fr.length + 10) (by decide) rfl (.inr (by rw [h34]; decide)) fun sn => ?_
    refine r_moreF (N := fr.length + 9) (by lia) (fun sn => ?_) rfl
    have e1 : (keepOf mk 0 li (some 0)).marks ++ mk.extract (keepOf mk 0 li (some 0)).marks.size mk.size = mk := by
      show mk.extract 0 1 ++ mk.extract (mk.extract 0 1).size mk.size = mk
      rw [Array.size_extract]
      by_cases h : mk.size = 0
      · have : mk = #[] := Array.eq_empty_of_size_eq_zero h
        subst this; rfl
      · rw [show min 1 mk.size - 0 = 1 by lia, Array.extract_append_extract]
        simp
        lia
    rw [e1]
    refine e_mark1 (N := fr.length + 8) (by decide) rfl rfl fun sn => ?_
    refine e_lit (N := fr.length + 7) (by decide) rfl he h34 fun sn => ?_
    refine e_success (N := fr.length + 6) (by decide) rfl rfl fun sn => ?_
    exact (r_unwind (C := CQ) (T := T) _ (by
      intro f hf
      rcases hf with _ | ⟨_, hf⟩
      · exact plain_tail
      · exact hp f hf)).mono (by show fr.length + 1 + 1 ≤ _; lia)
  | @more p e k j h92 h10 hq hn hlt hr ih =>
    intro li hd w sn cnt beg fr hz hk hw hp hc hb
    have hks := keepOf_size mk 0 li (some 0)
    have hks2 := keepOf_size mk 0 (keepOf mk 0 li (some 0)).lastindex (some 0)
    refine (e_until (N := 12 * k + fr.length + 23) (by decide) rfl rfl rfl hc hb (by lia) (by lia) fun sn => ?_).mono (by lia)
    refine e_lit (N := 12 * k + fr.length + 22) (by decide) rfl (by lia) h92 fun sn => ?_
    refine e_any (N := 12 * k + fr.length + 21) (by decide) rfl (by lia) h10 fun sn => ?_
    refine e_rep (N := 12 * k + fr.length + 20) j (by decide) rfl rfl (by lia) (by lia) (Nat.zero_le _) (fun q hq' => ?_) (.inr ?_) (by lia) fun sn => ?_
    · have := takes_Q57 (T.getD (p + 2 + q) 0); rwa [hq q hq'] at this
    · have := takes_Q57 (T.getD (p + 2 + j) 0); rwa [hn] at this
    refine (ih hz hk ?_ ?_ (by lia) ?_).mono ?_
    · have h1 : (keepOf mk 0 li (some 0)).marks.size ≤ 2 := by lia
      have h2 : (keepOf mk 0 li (some 0)).marks.size ≤ 2 := by lia
      lia
    · intro f hf
      rcases hf with _ | ⟨_, _ | ⟨_, hf⟩⟩
      · exact plain_give
      · exact plain_more
      · exact hp f hf
    · intro q; have := Option.some.inj q; lia
    · simp only [List.length_cons]; lia
/-- a value in quotation marks at the head -/
theorem quo_won (j e k : Nat) (hz : T.size ≤ 100000) (h0 : T.getD 0 0 = 61) (h1 : T.getD 1 0 = 34) (hq : ∀ q, q < j → quoc (T.getD (2 + q) 0) = true) (hn : quoc (T.getD (2 + j) 0) = false) (H : Escs T (2 + j) e k) (hk : k ≤ 10000) :
    Ends (12 * k + 40) (forSearch CQ T 1 0 T.size false) (fun m => Won m 0 (e + 1) 1 1 #[some 2, some e]) := by
  have hlt := H.lt
  obtain ⟨sn, e'⟩ := fs_Q (T := T) (by lia)
  rw [e']
  refine e_at (N := 12 * k + 39) (by decide) rfl rfl rfl fun sn => ?_
  refine e_rep (N := 12 * k + 38) 0 (by decide) rfl rfl (by lia) (by lia) (Nat.zero_le _) (fun q hq => absurd hq (by lia)) (.inr ?_) (by show 1 + 1 + 2 ≤ 16777216; lia) fun sn => ?_
  · have := takes_Q7 (T.getD 0 0); rwa [h0] at this ⊢
  refine e_lit (N := 12 * k + 37) (by decide) rfl (by lia) h0 fun sn => ?_
  refine e_rep (N := 12 * k + 36) 0 (by decide) rfl rfl (by lia) (by lia) (Nat.zero_le _) (fun q hq => absurd hq (by lia)) (.inr ?_) (by show 1 + 1 + 0 + 1 + 2 ≤ 16777216; lia) fun sn => ?_
  · have := takes_Q23 (T.getD 1 0); rwa [h1] at this ⊢
  refine e_lit (N := 12 * k + 35) (by decide) rfl (by lia) h1 fun sn => ?_
  refine e_mark0 (N := 12 * k + 34) (by decide) rfl rfl fun sn => ?_
  refine e_rep (N := 12 * k + 33) j (by decide) rfl rfl (by lia) (by lia) (Nat.zero_le _) (fun q hq' => ?_) (.inr ?_) (by show 1 + 1 + 0 + 1 + 0 + 1 + 2 ≤ 16777216; lia) fun sn => ?_
  · have := takes_Q37 (T.getD (2 + q) 0); rwa [hq q hq'] at this
  · have := takes_Q37 (T.getD (2 + j) 0); rwa [hn] at this
  refine e_repeat (N := 12 * k + 32) (by decide) rfl (by show 1 + 1 + 0 + 1 + 0 + 1 + 0 ≤ 1000000; lia) fun sn => ?_
  refine (quo_loop H hz (by decide) ?_ ?_ (by decide) (by simp)).mono ?_
  · show 1 + 1 + 0 + 1 + 0 + 1 + 0 + 1 + 0 + 10 * k ≤ 990000
    lia
  · intro f hf
    rcases hf with _ | ⟨_, _ | ⟨_, _ | ⟨_, _ | ⟨_, _ | ⟨_, hf⟩⟩⟩⟩⟩
    · exact plain_close
    · exact plain_give
    · exact plain_give
    · exact plain_give
    · exact plain_next
    · cases hf
  · simp only [List.length_cons, List.length_nil]; lia
end
end Mine

end
section
open PySem.Sre
set_option linter.unusedSimpArgs false
set_option linter.unusedVariables false
namespace Mine
section
variable {C T : Array Nat} {start ls : Nat}
structure LitC (C : Array Nat) : Prop where
  s5 : 5 < C.size
  s17 : 7 + 1 + C.getD (7 + 1) 0 < C.size
  a0 : C.getD 5 0 = 6
  a1 : C.getD (5 + 1) 0 = 0
  m : C.getD (7 + 2) 0 = 0
  l0 : C.getD (7 + 1 + C.getD (7 + 1) 0) 0 = 16
  l1 : C.getD (7 + 1 + C.getD (7 + 1) 0 + 1) 0 = 61
  nf : ∀ m : M, m.code = C → m.hasFirstSet = false
theorem litQ : LitC CQ := ⟨by decide, by decide, rfl, rfl, rfl, rfl, rfl, nf_Q⟩
theorem litV : LitC CV := ⟨by decide, by decide, rfl, rfl, rfl, rfl, rfl, nf_V⟩
/-- blanks given back before a literal =, then all later starts -/
theorem give_lit (hC : LitC C) (hls : ls ≤ T.size) (hz : T.size ≤ 100000) : ∀ (c : Nat) {pc pos hd : Nat} {om : Bool} {mk : Array (Option Nat)} {lm li : Int} {w : Nat} {sn : Seen} {fl : Nat} {fb : Option Nat},
    c ≤ T.size → (∀ q, q < c → sp (T.getD q 0) = true) → w ≤ 1000 →
    Ends (4 * c + 2 * T.size + 10) ⟨C, T, T.size, 0, ls, false, false, pc, pos, hd, om, mk, lm, li, #[], none, [⟨.giveBack, 7, c, true, c, keepOf (Array.replicate 2 none) (-1) (-1) none, fl, fb⟩, next0 5], w, some false, sn, none⟩ Lost
  | 0, _, _, _, _, _, _, _, w, _, _, _, _, _, hw => by
    refine (r_giveF_last (N := 2 * T.size + 9) (by rw [hC.m]; decide) fun sn => ?_).mono (by lia)
    exact (at_all (C := C) (T := T) hC.s5 hC.a0 hC.a1 hC.nf T.size (by lia) (by lia)).mono (by lia)
  | c + 1, _, _, _, _, _, _, _, w, _, _, _, hc, hq, hw => by
    have hsp := hq c (by lia)
    have hne : T.getD c 0 ≠ 61 := by
      intro e
      rw [e] at hsp
      exact absurd hsp (by decide +kernel)
    have e1 : ((c + 1 : Nat) : Int) - 1 = (c : Int) := by lia
    refine (r_giveF (N := 4 * c + 2 * T.size + 11) (by rw [hC.m]; lia) (by lia) (by decide) fun sn => ?_).mono (by lia)
    refine e_litF (N := 4 * c + 2 * T.size + 10) hC.s17 hC.l0 (.inr (by rw [hC.l1]; exact hne)) fun sn => ?_
    rw [e1]
    exact give_lit hC hls hz c (by lia) (fun q h => hq q (by lia)) (by show w - (1 + 0) + 1 + 0 ≤ 1000; lia)
/-- no = behind the blanks -/
theorem quo_lost (j : Nat) (hz : T.size ≤ 100000) (hj : j ≤ T.size) (hs : ∀ q, q < j → sp (T.getD q 0) = true) (hn : j = T.size ∨ (sp (T.getD j 0) = false ∧ T.getD j 0 ≠ 61)) :
    Ends (6 * T.size + 20) (forSearch CQ T 1 0 T.size false) Lost := by
  by_cases h0 : T.size < 3
  · exact (fs_shortQ (.inr (by lia))).mono (by lia)
  obtain ⟨sn, e⟩ := fs_Q (T := T) (by lia)
  rw [e]
  refine (e_at (N := 6 * T.size + 18) (by decide) rfl rfl rfl fun sn => ?_).mono (by lia)
  refine e_rep (N := 6 * T.size + 17) j (by decide) rfl rfl (by lia) (by lia) (Nat.zero_le _) (fun q hq => ?_) (hn.imp (by lia) fun h => ?_) (by show 1 + 1 + 2 ≤ 16777216; lia) fun sn => ?_
  · rw [Nat.zero_add]; have := takes_Q7 (T.getD q 0); rwa [hs q hq] at this
  · rw [Nat.zero_add]; have := takes_Q7 (T.getD j 0); rwa [h.1] at this
  rw [Nat.zero_add]
  refine e_litF (N := 6 * T.size + 16) (by decide) rfl (hn.imp (by lia) fun h => h.2) fun sn => ?_
  exact (give_lit litQ (by lia) hz j hj hs (by show 1 + 1 + 0 ≤ 1000; lia)).mono (by lia)
/-- an = without a quotation mark -/
theorem quo_lost2 (hz : T.size ≤ 100000) (h0 : T.getD 0 0 = 61) (h1 : sp (T.getD 1 0) = false) (h2 : T.getD 1 0 ≠ 34) :
    Ends (6 * T.size + 20) (forSearch CQ T 1 0 T.size false) Lost := by
  by_cases h0' : T.size < 3
  · exact (fs_shortQ (.inr (by lia))).mono (by lia)
  obtain ⟨sn, e⟩ := fs_Q (T := T) (by lia)
  rw [e]
  refine (e_at (N := 6 * T.size + 18) (by decide) rfl rfl rfl fun sn => ?_).mono (by lia)
  refine e_rep (N := 6 * T.size + 17) 0 (by decide) rfl rfl (by lia) (by lia) (Nat.zero_le _) (fun q hq => absurd hq (by lia)) (.inr ?_) (by show 1 + 1 + 2 ≤ 16777216; lia) fun sn => ?_
  · have := takes_Q7 (T.getD 0 0); rwa [h0] at this ⊢
  refine e_lit (N := 6 * T.size + 16) (by decide) rfl (by lia) h0 fun sn => ?_
  refine e_rep (N := 6 * T.size + 15) 0 (by decide) rfl rfl (by lia) (by lia) (Nat.zero_le _) (fun q hq => absurd hq (by lia)) (.inr ?_) (by show 1 + 1 + 0 + 1 + 2 ≤ 16777216; lia) fun sn => ?_
  · have := takes_Q23 (T.getD 1 0); rwa [h1] at this
  refine e_litF (N := 6 * T.size + 14) (by decide) rfl (.inr h2) fun sn => ?_
  refine r_giveF_last (N := 6 * T.size + 13) (by decide) fun sn => ?_
  exact (give_lit litQ (by lia) hz 0 (by lia) (fun q hq => absurd hq (by lia)) (by show 1 + 1 + 0 + 1 + 0 - (1 + 0) ≤ 1000; lia)).mono (by lia)
theorem val_lost (j : Nat) (hz : T.size ≤ 100000) (hj : j ≤ T.size) (hs : ∀ q, q < j → sp (T.getD q 0) = true) (hn : j = T.size ∨ (sp (T.getD j 0) = false ∧ T.getD j 0 ≠ 61)) :
    Ends (6 * T.size + 20) (forSearch CV T 1 0 T.size false) Lost := by
  by_cases h0 : T.size < 1
  · exact (fs_shortV (.inr (by lia))).mono (by lia)
  obtain ⟨sn, e⟩ := fs_V (T := T) (by lia)
  rw [e]
  refine (e_at (N := 6 * T.size + 18) (by decide) rfl rfl rfl fun sn => ?_).mono (by lia)
  refine e_rep (N := 6 * T.size + 17) j (by decide) rfl rfl (by lia) (by lia) (Nat.zero_le _) (fun q hq => ?_) (hn.imp (by lia) fun h => ?_) (by show 1 + 1 + 2 ≤ 16777216; lia) fun sn => ?_
  · rw [Nat.zero_add]; have := takes_V7 (T.getD q 0); rwa [hs q hq] at this
  · rw [Nat.zero_add]; have := takes_V7 (T.getD j 0); rwa [h.1] at this
  rw [Nat.zero_add]
  refine e_litF (N := 6 * T.size + 16) (by decide) rfl (hn.imp (by lia) fun h => h.2) fun sn => ?_
  exact (give_lit litV (by lia) hz j hj hs (by show 1 + 1 + 0 ≤ 1000; lia)).mono (by lia)
theorem val_won (n : Nat) (hz : T.size ≤ 100000) (h0 : T.getD 0 0 = 61) (h1 : sp (T.getD 1 0) = false) (ht : ∀ q, q < n → valc (T.getD (1 + q) 0) = true) (hl : 1 + n ≤ T.size) (hn : 1 + n = T.size ∨ valc (T.getD (1 + n) 0) = false) :
    Ends 20 (forSearch CV T 1 0 T.size false) (fun m => Won m 0 (1 + n) 1 1 #[some 1, some (1 + n)]) := by
  obtain ⟨sn, e⟩ := fs_V (T := T) (by lia)
  rw [e]
  refine e_at (N := 19) (by decide) rfl rfl rfl fun sn => ?_
  refine e_rep (N := 18) 0 (by decide) rfl rfl (by lia) (by lia) (Nat.zero_le _) (fun q hq => absurd hq (by lia)) (.inr ?_) (by show 1 + 1 + 2 ≤ 16777216; lia) fun sn => ?_
  · have := takes_V7 (T.getD 0 0); rwa [h0] at this ⊢
  refine e_lit (N := 17) (by decide) rfl (by lia) h0 fun sn => ?_
  refine e_rep (N := 16) 0 (by decide) rfl rfl (by lia) (by lia) (Nat.zero_le _) (fun q hq => absurd hq (by lia)) (.inr ?_) (by show 1 + 1 + 0 + 1 + 2 ≤ 16777216; lia) fun sn => ?_
  · have := takes_V23 (T.getD 1 0); rwa [h1] at this
  refine e_mark0 (N := 15) (by decide) rfl rfl fun sn => ?_
  refine e_rep (N := 14) n (by decide) rfl rfl (by lia) (by lia) (Nat.zero_le _) (fun q hq => ?_) (hn.imp (by lia) fun h => ?_) (by show 1 + 1 + 0 + 1 + 0 + 1 + 2 ≤ 16777216; lia) fun sn => ?_
  · have := takes_V35 (T.getD (1 + q) 0); rwa [ht q hq] at this
  · have := takes_V35 (T.getD (1 + n) 0); rwa [h] at this
  refine e_mark1 (N := 13) (by decide) rfl rfl fun sn => ?_
  refine e_success (N := 12) (by decide) rfl rfl fun sn => ?_
  exact (r_unwind (C := CV) (T := T) _ (by
    intro f hf
    rcases hf with _ | ⟨_, _ | ⟨_, _ | ⟨_, _ | ⟨_, hf⟩⟩⟩⟩
    · exact plain_give
    · exact plain_give
    · exact plain_give
    · exact plain_next
    · cases hf)).mono (by show 5 ≤ 12; lia)
/-- the junk at the head -/
theorem twin_won (n : Nat) (hz : T.size ≤ 100000) (ht : ∀ q, q < n → junk (T.getD q 0) = true) (hl : n ≤ T.size) (hn : n = T.size ∨ junk (T.getD n 0) = false) :
    Ends 20 (forSearch CW T 0 0 T.size false) (fun m => Won m 0 n (-1) (-1) #[]) := by
  obtain ⟨sn, e⟩ := fs_W (T := T) (by lia)
  rw [e]
  refine e_at (N := 19) (by decide) rfl rfl rfl fun sn => ?_
  refine e_rep (N := 18) n (by decide) rfl rfl (by lia) (by lia) (Nat.zero_le _) (fun q hq => ?_) (hn.imp (by lia) fun h => ?_) (by show 1 + 1 + 0 ≤ 16777216; lia) fun sn => ?_
  · rw [Nat.zero_add]; have := takes_W11 (T.getD q 0); rwa [ht q hq] at this
  · rw [Nat.zero_add]; have := takes_W11 (T.getD n 0); rwa [h] at this
  rw [Nat.zero_add]
  refine e_success (N := 17) (by decide) rfl rfl fun sn => ?_
  exact (r_unwind (C := CW) (T := T) _ (by
    intro f hf
    rcases hf with _ | ⟨_, _ | ⟨_, hf⟩⟩
    · exact plain_give
    · exact plain_next
    · cases hf)).mono (by show 3 ≤ 17; lia)
theorem fs_Wat (pos : Nat) (h : pos ≤ T.size) : ∃ sn, forSearch CW T 0 pos T.size false = ⟨CW, T, T.size, pos, T.size, false, false, 5, pos, pos, true, Array.replicate (2 * 0) none, -1, -1, #[], none, [⟨.nextStart, 5, pos, true, 0, {}, 0, none⟩], 1, none, sn, none⟩ := by
  unfold forSearch
  refine ⟨({} : Seen).add 14, Eq.trans (if_neg ?_) ?_⟩
  · show ¬ ((decide (pos > T.size) || decide (T.size - pos < 0)) = true)
    simp only [Bool.or_eq_true, decide_eq_true_eq]
    lia
  · rfl
theorem twin_lost (pos : Nat) (hz : T.size ≤ 100000) (h : pos ≤ T.size) (h0 : 0 < pos) : Ends (2 * T.size + 10) (forSearch CW T 0 pos T.size false) Lost := by
  obtain ⟨sn, e⟩ := fs_Wat (T := T) pos h
  rw [e]
  refine (e_atF (N := 2 * T.size + 9) (by decide) rfl rfl (by lia) fun sn => ?_)
  exact (at_all (C := CW) (T := T) (by decide) rfl rfl nf_W T.size (by lia) (by decide)).mono (by lia)
end
end Mine

end
section
open PySem.Sre
set_option linter.unusedSimpArgs false
set_option linter.unusedVariables false
namespace Mine
section
variable {T : Array Nat}
theorem fs_E (pos : Nat) (h : pos ≤ T.size) (h2 : ¬ T.size - pos < 2) : ∃ sn, forSearch CE T 1 pos T.size false = ⟨CE, T, T.size, pos, T.size, false, false, 9, pos, pos, true, Array.replicate (2 * 1) none, -1, -1, #[], none, [⟨.nextStart, 9, pos, true, 0, {}, 0, none⟩], 1, none, sn, none⟩ := by
  unfold forSearch
  refine ⟨({} : Seen).add 14, Eq.trans (if_neg ?_) ?_⟩
  · show ¬ ((decide (pos > T.size) || decide (T.size - pos < 2)) = true)
    simp only [Bool.or_eq_true, decide_eq_true_eq]
    lia
  · rfl
theorem fs_shortE {pos : Nat} {ma : Bool} (h : pos > T.size ∨ T.size - pos < 2) : Ends 1 (forSearch CE T 1 pos T.size ma) Lost := by
  unfold forSearch
  have e : (decide (pos > T.size) || decide (T.size - pos < 2)) = true := by simpa using h
  refine Ends.step (m' := _) ?_ rfl (Ends.here ?_ ?_)
  · show M.outcome (if (decide (pos > T.size) || decide (T.size - pos < 2)) = true then _ else _) = none
    rw [if_pos e]; rfl
  · show (M.outcome (M.step (if (decide (pos > T.size) || decide (T.size - pos < 2)) = true then _ else _))).isSome = true
    rw [if_pos e]; rfl
  · show M.outcome (M.step (if (decide (pos > T.size) || decide (T.size - pos < 2)) = true then _ else _)) = _
    rw [if_pos e]; rfl
theorem esc_scan (hz : T.size ≤ 100000) : ∀ (d : Nat) {s hd w : Nat} {om fom : Bool} {sn : Seen}, w ≤ 1000 → (∀ q, q < d → T.getD (s + q) 0 ≠ 92) → T.getD (s + d) 0 = 92 → s + d + 1 < T.size → T.getD (s + d + 1) 0 ≠ 10 →
    Ends (2 * d + 10) ⟨CE, T, T.size, s, T.size, false, false, 9, s, hd, om, Array.replicate (2 * 1) none, -1, -1, #[], none, [⟨.nextStart, 9, s, fom, 0, {}, 0, none⟩], w, none, sn, none⟩
      (fun m => Won m (s + d) (s + d + 2) 1 1 #[some (s + d + 1), some (s + d + 2)])
  | 0, s, hd, w, om, fom, sn, hw, h, h92, hl, h10 => by
    rw [Nat.add_zero] at *
    refine e_lit (N := 9) (by decide) rfl (by lia) h92 fun sn => ?_
    refine e_mark0 (N := 8) (by decide) rfl rfl fun sn => ?_
    refine e_any (N := 7) (by decide) rfl (by lia) h10 fun sn => ?_
    refine e_mark1 (N := 6) (by decide) rfl rfl fun sn => ?_
    refine e_success (N := 5) (by decide) rfl (by simp) fun sn => ?_
    exact (r_unwind (C := CE) (T := T) _ (by
      intro f hf
      rcases hf with _ | ⟨_, hf⟩
      · exact plain_next
      · cases hf)).mono (by show 2 ≤ 5; lia)
  | d + 1, s, hd, w, om, fom, sn, hw, h, h92, hl, h10 => by
    have h0 := h 0 (by lia)
    rw [Nat.add_zero] at h0
    refine (e_litF (N := 2 * d + 11) (by decide) rfl (.inr h0) fun sn => ?_).mono (by lia)
    refine r_nextF (N := 2 * d + 10) (by lia) nf_E (by lia) fun sn => ?_
    rw [show s + (d + 1) = s + 1 + d by lia] at *
    exact esc_scan hz d (by show w - (1 + 0) + 1 + 0 ≤ 1000; lia) (fun q hq => by have := h (q + 1) (by lia); rwa [show s + (q + 1) = s + 1 + q by lia] at this) h92 hl h10
theorem esc_none (hz : T.size ≤ 100000) : ∀ (d : Nat) {s hd w : Nat} {om fom : Bool} {sn : Seen}, w ≤ 1000 → s + d = T.size → (∀ q, q < d → T.getD (s + q) 0 ≠ 92) →
    Ends (2 * d + 10) ⟨CE, T, T.size, s, T.size, false, false, 9, s, hd, om, Array.replicate (2 * 1) none, -1, -1, #[], none, [⟨.nextStart, 9, s, fom, 0, {}, 0, none⟩], w, none, sn, none⟩ Lost
  | 0, s, hd, w, om, fom, sn, hw, hs, h => by
    refine e_litF (N := 9) (by decide) rfl (.inl (by lia)) fun sn => ?_
    exact (r_nextF_last (N := 8) (by lia) fun _ => r_lost)
  | d + 1, s, hd, w, om, fom, sn, hw, hs, h => by
    have h0 := h 0 (by lia)
    rw [Nat.add_zero] at h0
    refine (e_litF (N := 2 * d + 11) (by decide) rfl (.inr h0) fun sn => ?_).mono (by lia)
    refine r_nextF (N := 2 * d + 10) (by lia) nf_E (by lia) fun sn => ?_
    exact esc_none hz d (by show w - (1 + 0) + 1 + 0 ≤ 1000; lia) (by lia) (fun q hq => by have := h (q + 1) (by lia); rwa [show s + (q + 1) = s + 1 + q by lia] at this)
/-- the next escape from a place on -/
theorem esc_won (pos d : Nat) (hz : T.size ≤ 100000) (h : ∀ q, q < d → T.getD (pos + q) 0 ≠ 92) (h92 : T.getD (pos + d) 0 = 92) (hl : pos + d + 1 < T.size) (h10 : T.getD (pos + d + 1) 0 ≠ 10) :
    Ends (2 * T.size + 20) (forSearch CE T 1 pos T.size false) (fun m => Won m (pos + d) (pos + d + 2) 1 1 #[some (pos + d + 1), some (pos + d + 2)]) := by
  obtain ⟨sn, e⟩ := fs_E (T := T) pos (by lia) (by lia)
  rw [e]
  exact (esc_scan hz d (by decide) h h92 hl h10).mono (by lia)
theorem esc_lost (pos : Nat) (hz : T.size ≤ 100000) (hp : pos ≤ T.size) (h : ∀ q, pos ≤ q → q < T.size → T.getD q 0 ≠ 92) : Ends (2 * T.size + 20) (forSearch CE T 1 pos T.size false) Lost := by
  by_cases h2 : T.size - pos < 2
  · exact (fs_shortE (.inr h2)).mono (by lia)
  obtain ⟨sn, e⟩ := fs_E (T := T) pos hp h2
  rw [e]
  exact (esc_none hz (T.size - pos) (by decide) (by lia) (fun q hq => h _ (by lia) (by lia))).mono (by lia)

/-- a whole match of the token's signs -/
theorem fm_J (h : 1 ≤ T.size) : ∃ sn, forMatch CJT T 0 0 T.size true false = ⟨CJT, T, T.size, 0, 0, true, false, 5, 0, 0, true, Array.replicate (2 * 0) none, -1, -1, #[], none, [], 0, none, sn, none⟩ := by
  unfold forMatch
  refine ⟨({} : Seen).add 14, Eq.trans (if_neg ?_) ?_⟩
  · show ¬ ((true && decide (0 ≤ T.size) && decide (T.size - 0 < 1)) = true)
    simp only [Bool.true_and, Bool.and_eq_true, decide_eq_true_eq]
    lia
  · rfl
theorem jt_won (hz : T.size ≤ 100000) (h0 : 1 ≤ T.size) (h : ∀ q, q < T.size → jtok (T.getD q 0) = true) : Ends 10 (forMatch CJT T 0 0 T.size true false) (fun m => Won m 0 T.size (-1) (-1) #[]) := by
  obtain ⟨sn, e⟩ := fm_J (T := T) h0
  rw [e]
  refine e_rep (N := 9) T.size (by decide) rfl rfl (by lia) (by lia) h0 (fun q hq => ?_) (.inl (by lia)) (by show 0 + 1 + 0 ≤ 16777216; lia) fun sn => ?_
  · rw [Nat.zero_add]; have := takes_J9 (T.getD q 0); rwa [h q hq] at this
  rw [Nat.zero_add]
  refine e_success (N := 8) (by decide) rfl (by simp) fun sn => ?_
  exact (r_unwind (C := CJT) (T := T) _ (by
    intro f hf
    rcases hf with _ | ⟨_, hf⟩
    · exact plain_give
    · cases hf)).mono (by show 2 ≤ 8; lia)
theorem jt_back (hz : T.size ≤ 100000) : ∀ (c : Nat) {pc pos hd : Nat} {om : Bool} {mk : Array (Option Nat)} {lm li : Int} {w : Nat} {sn : Seen} {fl : Nat} {fb : Option Nat}, c < T.size → w ≤ 1000 →
    Ends (4 * c + 10) ⟨CJT, T, T.size, 0, 0, true, false, pc, pos, hd, om, mk, lm, li, #[], none, [⟨.giveBack, 5, c, true, c, keepOf (Array.replicate (2 * 0) none) (-1) (-1) none, fl, fb⟩], w, some false, sn, none⟩ Lost
  | 0, _, _, _, _, _, _, _, w, _, _, _, _, hw => (r_giveF_last (N := 9) (by decide) fun _ => r_lost)
  | c + 1, _, _, _, _, _, _, _, w, _, _, _, hc, hw => by
    have e1 : ((c + 1 : Nat) : Int) - 1 = (c : Int) := by lia
    by_cases h : c = 0
    · subst h
      exact (r_giveF_last (N := 9) (by decide) fun _ => r_lost).mono (by lia)
    · refine (r_giveF (N := 4 * c + 11) (by show ¬ (((c + 1 : Nat) : Int) - 1 < 1); lia) (by lia) (by decide) fun sn => ?_).mono (by lia)
      refine e_successF (N := 4 * c + 10) (by decide) rfl (by show (true && ((true && (c != T.size)) || (false && _))) = true; simp; lia) fun sn => ?_
      rw [e1]
      exact jt_back hz c (by lia) (by show w - (1 + 0) + 1 + 0 ≤ 1000; lia)
theorem fs_shortJ (h : T.size < 1) : Ends 1 (forMatch CJT T 0 0 T.size true false) Lost := by
  have e : T = #[] := Array.eq_empty_of_size_eq_zero (by lia)
  subst e
  exact Ends.step rfl rfl (Ends.here rfl rfl)
theorem jt_lost (j : Nat) (hz : T.size ≤ 100000) (h : ∀ q, q < j → jtok (T.getD q 0) = true) (hj : j = T.size ∧ j = 0 ∨ j < T.size ∧ jtok (T.getD j 0) = false) : Ends (4 * T.size + 20) (forMatch CJT T 0 0 T.size true false) Lost := by
  rcases hj with ⟨h1, h2⟩ | ⟨h1, h2⟩
  · exact (fs_shortJ (by lia)).mono (by lia)
  obtain ⟨sn, e⟩ := fm_J (T := T) (by lia)
  rw [e]
  by_cases h0 : j = 0
  · subst h0
    refine (e_repF (N := 1) 0 (by decide) rfl rfl (by lia) (by lia) (by decide) (fun q hq => absurd hq (by lia)) (.inr ?_) fun sn => r_lost).mono (by lia)
    have := takes_J9 (T.getD 0 0); rwa [h2] at this
  · refine (e_rep (N := 4 * j + 11) j (by decide) rfl rfl (by lia) (by lia) (by show 1 ≤ j; lia) (fun q hq => ?_) (.inr ?_) (by show 0 + 1 + 0 ≤ 16777216; lia) fun sn => ?_).mono (by lia)
    · rw [Nat.zero_add]; have := takes_J9 (T.getD q 0); rwa [h q hq] at this
    · rw [Nat.zero_add]; have := takes_J9 (T.getD j 0); rwa [h2] at this
    rw [Nat.zero_add]
    refine e_successF (N := 4 * j + 10) (by decide) rfl (by show (true && ((true && (j != T.size)) || (false && _))) = true; simp; lia) fun sn => ?_
    exact jt_back hz j h1 (by show 0 + 1 + 0 ≤ 1000; lia)

/-- the next sign to be escaped, by the set of first characters -/
theorem adm_won {m : M} (hc : m.code = CJE) (ht : m.text = T) (hl : m.lim = T.size) : ∀ (d : Nat) {fuel s : Nat} {sn : Seen}, d < fuel → s + d < T.size → (∀ q, q < d → esc2 (T.getD (s + q) 0) = false) → esc2 (T.getD (s + d) 0) = true →
    ∃ sn', M.admitted m fuel s sn = .ok (some (s + d), sn')
  | 0, fuel + 1, s, sn, _, hs, _, h => by
    unfold M.admitted
    rw [if_neg (by rw [hl]; lia)]
    obtain ⟨sn', e⟩ := set_E (i := 5) 19 rfl rfl rfl rfl rfl (T.getD s 0) sn
    rw [Nat.add_zero] at h
    rw [h] at e
    rw [hc, ht]
    simp only [show CJE.size = 19 + 3 from rfl, e]
    exact ⟨_, rfl⟩
  | d + 1, fuel + 1, s, sn, hf, hs, h, h' => by
    unfold M.admitted
    rw [if_neg (by rw [hl]; lia)]
    obtain ⟨sn', e⟩ := set_E (i := 5) 19 rfl rfl rfl rfl rfl (T.getD s 0) sn
    have h0 := h 0 (by lia)
    rw [Nat.add_zero] at h0
    rw [h0] at e
    obtain ⟨sn2, e2⟩ := adm_won hc ht hl d (fuel := fuel) (s := s + 1) (sn := sn') (by lia) (by lia) (fun q hq => by have := h (q + 1) (by lia); rwa [show s + (q + 1) = s + 1 + q by lia] at this) (by rwa [show s + (d + 1) = s + 1 + d by lia] at h')
    refine ⟨sn2, ?_⟩
    rw [show s + (d + 1) = s + 1 + d by lia, ← e2, hc, ht]
    simp only [show CJE.size = 19 + 3 from rfl, e]
  | d, 0, _, _, h, _, _, _ => absurd h (by lia)
theorem adm_lost {m : M} (hc : m.code = CJE) (ht : m.text = T) (hl : m.lim = T.size) : ∀ (fuel : Nat) {s : Nat} {sn : Seen}, (∀ q, s ≤ q → q < T.size → esc2 (T.getD q 0) = false) →
    ∃ sn', M.admitted m fuel s sn = .ok (none, sn')
  | 0, s, sn, _ => ⟨sn, rfl⟩
  | fuel + 1, s, sn, h => by
    unfold M.admitted
    by_cases hs : s ≥ m.lim
    · rw [if_pos hs]; exact ⟨_, rfl⟩
    · rw [if_neg hs]
      obtain ⟨sn', e⟩ := set_E (i := 5) 19 rfl rfl rfl rfl rfl (T.getD s 0) sn
      rw [h s (by lia) (by lia)] at e
      obtain ⟨sn2, e2⟩ := adm_lost hc ht hl fuel (s := s + 1) (sn := sn') (fun q h1 h2 => h q (by lia) h2)
      refine ⟨sn2, ?_⟩
      rw [← e2, hc, ht]
      simp only [show CJE.size = 19 + 3 from rfl, e]
noncomputable abbrev freshE (T : Array Nat) (pos : Nat) : M := ⟨CJE, T, T.size, pos, T.size, false, false, 10, pos, pos, true, Array.replicate (2 * 1) none, -1, -1, #[], none, [], 0, none, ({} : Seen).add 14, none⟩
theorem fs_JE (pos : Nat) (h : pos ≤ T.size) (h2 : ¬ T.size - pos < 1) : forSearch CJE T 1 pos T.size false = (freshE T pos).attemptFrom pos true := by
  unfold forSearch
  refine Eq.trans (if_neg ?_) ?_
  · show ¬ ((decide (pos > T.size) || decide (T.size - pos < 1)) = true)
    simp only [Bool.or_eq_true, decide_eq_true_eq]
    lia
  · rfl
theorem fs_shortJE {pos : Nat} {ma : Bool} (h : pos > T.size ∨ T.size - pos < 1) : Ends 1 (forSearch CJE T 1 pos T.size ma) Lost := by
  unfold forSearch
  have e : (decide (pos > T.size) || decide (T.size - pos < 1)) = true := by simpa using h
  refine Ends.step (m' := _) ?_ rfl (Ends.here ?_ ?_)
  · show M.outcome (if (decide (pos > T.size) || decide (T.size - pos < 1)) = true then _ else _) = none
    rw [if_pos e]; rfl
  · show (M.outcome (M.step (if (decide (pos > T.size) || decide (T.size - pos < 1)) = true then _ else _))).isSome = true
    rw [if_pos e]; rfl
  · show M.outcome (M.step (if (decide (pos > T.size) || decide (T.size - pos < 1)) = true then _ else _)) = _
    rw [if_pos e]; rfl
theorem je_won (pos d : Nat) (hz : T.size ≤ 100000) (h : ∀ q, q < d → esc2 (T.getD (pos + q) 0) = false) (h1 : esc2 (T.getD (pos + d) 0) = true) (hl : pos + d < T.size) :
    Ends 20 (forSearch CJE T 1 pos T.size false) (fun m => Won m (pos + d) (pos + d + 1) 1 1 #[some (pos + d), some (pos + d + 1)]) := by
  rw [fs_JE pos (by lia) (by lia)]
  obtain ⟨sn', e⟩ := adm_won (m := freshE T pos) (T := T) rfl rfl rfl d (fuel := T.size + 1 - pos) (s := pos) (sn := ({} : Seen).add 14) (by lia) hl h h1
  have e2 : (freshE T pos).attemptFrom pos true = ⟨CJE, T, T.size, pos + d, T.size, false, false, 10, pos + d, pos + d, true, Array.replicate (2 * 1) none, -1, -1, #[], none, [⟨.nextStart, 10, pos + d, true, 0, {}, 0, none⟩], 1, none, sn', none⟩ := by
    unfold M.attemptFrom
    refine Eq.trans (if_neg (by show ¬ (!true) = true; decide)) ?_
    show (match M.admitted (freshE T pos) (T.size + 1 - pos) pos (({} : Seen).add 14) with
      | .ok (some s, seen) => { freshE T pos with mustAdvance := false, seen }.attemptAt s true
      | .ok (none, seen) => { freshE T pos with seen }.say false
      | .error why => (freshE T pos).stick why) = _
    rw [e]
    rfl
  rw [e2]
  refine e_mark0 (N := 19) (by decide) rfl rfl fun sn => ?_
  refine e_in (N := 18) (by decide) rfl hl (by have := takes_E12 (T.getD (pos + d) 0); rwa [h1] at this) fun sn => ?_
  refine e_mark1 (N := 17) (by decide) rfl rfl fun sn => ?_
  refine e_success (N := 16) (by decide) rfl (by simp) fun sn => ?_
  exact (r_unwind (C := CJE) (T := T) _ (by
    intro f hf
    rcases hf with _ | ⟨_, hf⟩
    · exact plain_next
    · cases hf)).mono (by show 2 ≤ 16; lia)
theorem je_lost (pos : Nat) (hz : T.size ≤ 100000) (hp : pos ≤ T.size) (h : ∀ q, pos ≤ q → q < T.size → esc2 (T.getD q 0) = false) : Ends 20 (forSearch CJE T 1 pos T.size false) Lost := by
  by_cases h2 : T.size - pos < 1
  · exact (fs_shortJE (.inr h2)).mono (by lia)
  rw [fs_JE pos hp h2]
  obtain ⟨sn', e⟩ := adm_lost (m := freshE T pos) (T := T) rfl rfl rfl (T.size + 1 - pos) (s := pos) (sn := ({} : Seen).add 14) h
  have e2 : (freshE T pos).attemptFrom pos true = { freshE T pos with seen := sn' }.say false := by
    unfold M.attemptFrom
    refine Eq.trans (if_neg (by show ¬ (!true) = true; decide)) ?_
    show (match M.admitted (freshE T pos) (T.size + 1 - pos) pos (({} : Seen).add 14) with
      | .ok (some s, seen) => { freshE T pos with mustAdvance := false, seen }.attemptAt s true
      | .ok (none, seen) => { freshE T pos with seen }.say false
      | .error why => (freshE T pos).stick why) = _
    rw [e]
  rw [e2]
  exact r_lost
end
end Mine

end
section
open PySem PySem.Builtin.Re
set_option linter.unusedSimpArgs false
set_option linter.unusedVariables false
namespace Mine
section
variable {M : Model} {A : Around} {E : Value → Shared → Prop} {s : Shared}
open PySem.Sre in
theorem wp_drive : ∀ (turns N : Nat) {m : Sre.M} {P : Sre.M → Prop} {Q : Sre.M → Shared → Prop}, Ends N m P → N ≤ 4 * turns → 0 < turns → (∀ m', m'.outcome.isSome = true → P m' → Q m' s) → wpAny M A (reDrive turns m) Q E s
  | 0, _, _, _, _, _, _, h, _ => absurd h (by lia)
  | turns + 1, N, m, P, Q, e, h, _, k => by
    unfold reDrive
    dsimp only
    obtain ⟨j, hj, h1, h2⟩ := e
    have hadd : ∀ (a b : Nat) (m : Sre.M), Sre.M.runFor (a + b) m = Sre.M.runFor b (Sre.M.runFor a m) := by
      intro a
      induction a with
      | zero => intro b m; rw [Nat.zero_add]; rfl
      | succ a ih =>
        intro b m
        rw [show a + 1 + b = (a + b) + 1 by lia]
        by_cases hs : m.outcome.isSome = true
        · rw [runFor_stop hs, runFor_stop hs, runFor_stop hs]
        · show (if m.outcome.isSome = true then m else Sre.M.runFor (a + b) m.step) = Sre.M.runFor b (if m.outcome.isSome = true then m else Sre.M.runFor a m.step)
          rw [if_neg hs, if_neg hs]
          exact ih b m.step
    by_cases hq : (Sre.M.runFor reTurnSteps m).outcome.isSome = true
    · rw [if_pos hq]
      refine wpAny_pure (k _ hq ?_)
      have : Sre.M.runFor j m = Sre.M.runFor reTurnSteps m := by
        by_cases hle : j ≤ 4
        · have := hadd j (4 - j) m
          rw [show j + (4 - j) = reTurnSteps by show _ = 4; lia] at this
          rw [this, runFor_stop h1]
        · have := hadd 4 (j - 4) m
          rw [show 4 + (j - 4) = j by lia] at this
          rw [this]; exact runFor_stop hq _
      rw [← this]; exact h2
    · rw [if_neg hq]
      refine wpAny_bind (wpAny_rule ?_)
      have h4 : 4 < j := by
        apply Nat.lt_of_not_le
        intro hle
        apply hq
        have := hadd j (4 - j) m
        rw [show j + (4 - j) = reTurnSteps by show _ = 4; lia] at this
        rw [this, runFor_stop h1]; exact h1
      have hj2 : Sre.M.runFor j m = Sre.M.runFor (j - 4) (Sre.M.runFor reTurnSteps m) := by
        have := hadd 4 (j - 4) m
        rwa [show 4 + (j - 4) = j by lia] at this
      exact wp_drive turns (N - 4) (m := Sre.M.runFor reTurnSteps m) (P := P) ⟨j - 4, by lia, by rw [← hj2]; exact h1, by rw [← hj2]; exact h2⟩ (by lia) (by lia) k

theorem wp_rules {Q : PUnit → Shared → Prop} (c : Nat → Bool) (t : Nat → String) : ∀ (l : List Nat), Q () s → wpAny M A (forIn (m := Sem) l PUnit.unit (fun i _ => if c i = true then (do rule (t i); pure (ForInStep.yield PUnit.unit)) else pure (ForInStep.yield PUnit.unit))) Q E s
  | [], h => wpAny_pure h
  | i :: l, h => by
    rw [List.forIn_cons]
    refine wpAny_bind ?_
    by_cases hc : c i = true
    · rw [if_pos hc]
      exact wpAny_bind (wpAny_rule (wpAny_pure (wp_rules c t l h)))
    · rw [if_neg hc]
      exact wpAny_pure (wp_rules c t l h)

theorem wp_toEnd {N : Nat} {m : Sre.M} {P : Sre.M → Prop} {Q : Option Sre.M → Shared → Prop} (e : Ends N m P) (h : N ≤ 2 ^ 60)
    (k : ∀ m', P m' → wpAny M A (match m'.outcome with
      | some .matched => pure (some m')
      | some .failed => pure none
      | some (.stuck why) => unsupported s!"_sre:{why}"
      | none => unsupported "internal:sre:no-outcome") Q E s) : wpAny M A (reRunToEnd m) Q E s := by
  unfold reRunToEnd
  refine wpAny_bind (wp_drive (2 ^ 64) N e (by lia) (by decide) fun m' _ hp => ?_)
  refine wpAny_bind ?_
  refine wp_rules (fun i => m'.seen.has i) (fun i => Sre.names.getD i "") _ ?_
  exact k m' hp
theorem wp_won {N : Nat} {m : Sre.M} {a b : Nat} {lm li : Int} {mk : Array (Option Nat)} {Q : Option Sre.M → Shared → Prop} (e : Ends N m (fun m => Won m a b lm li mk)) (h : N ≤ 2 ^ 60)
    (k : ∀ m', Won m' a b lm li mk → Q (some m') s) : wpAny M A (reRunToEnd m) Q E s :=
  wp_toEnd e h fun m' w => by rw [w.out]; exact wpAny_pure (k m' w)
theorem wp_lost {N : Nat} {m : Sre.M} {Q : Option Sre.M → Shared → Prop} (e : Ends N m Lost) (h : N ≤ 2 ^ 60) (k : Q none s) : wpAny M A (reRunToEnd m) Q E s :=
  wp_toEnd e h fun m' w => by rw [show m'.outcome = _ from w]; exact wpAny_pure k
end
end Mine

end
section
open PySem PySem.Calls
set_option linter.unusedVariables false
set_option maxRecDepth 100000
namespace Mine
theorem plainAttrs_Pat : PlainAttrs "re.Pattern" :=
  ⟨⟨"object.__getattribute__", by rw [typeLookup_type, builtinLookup_eq_fast]; kernel_rfl, by decide +kernel⟩, by rw [typeLookup_type, builtinLookup_eq_fast]; kernel_rfl⟩
theorem plainAttrs_Mat : PlainAttrs "re.Match" :=
  ⟨⟨"object.__getattribute__", by rw [typeLookup_type, builtinLookup_eq_fast]; kernel_rfl, by decide +kernel⟩, by rw [typeLookup_type, builtinLookup_eq_fast]; kernel_rfl⟩
theorem slot_Pat_search : Slot "re.Pattern" "search" "re.Pattern.search" :=
  .of (owner := "re.Pattern") (n := "search") (by rw [typeLookup_type, builtinLookup_eq_fast]; kernel_rfl) (by decide +kernel) (by decide +kernel) (by decide +kernel)
    (by first | exact .inl (by decide +kernel) | exact .inr (by decide +kernel)) (by rw [isSubtype_type]; kernel_rfl)
theorem type_Pat_search : typeOf (.builtin "re.Pattern.search") = pure (.type "method_descriptor") := by show builtinType _ = _; rw [builtinType_eq_fast]; kernel_rfl
theorem entry_Pat_search : entryFor table "re.Pattern.search" = some Builtin.«re.Pattern.search» := entryFor_of_tree (by kernel_rfl)
theorem slot_Pat_fullmatch : Slot "re.Pattern" "fullmatch" "re.Pattern.fullmatch" :=
  .of (owner := "re.Pattern") (n := "fullmatch") (by rw [typeLookup_type, builtinLookup_eq_fast]; kernel_rfl) (by decide +kernel) (by decide +kernel) (by decide +kernel)
    (by first | exact .inl (by decide +kernel) | exact .inr (by decide +kernel)) (by rw [isSubtype_type]; kernel_rfl)
theorem type_Pat_fullmatch : typeOf (.builtin "re.Pattern.fullmatch") = pure (.type "method_descriptor") := by show builtinType _ = _; rw [builtinType_eq_fast]; kernel_rfl
theorem entry_Pat_fullmatch : entryFor table "re.Pattern.fullmatch" = some Builtin.«re.Pattern.fullmatch» := entryFor_of_tree (by kernel_rfl)
theorem slot_Pat_sub : Slot "re.Pattern" "sub" "re.Pattern.sub" :=
  .of (owner := "re.Pattern") (n := "sub") (by rw [typeLookup_type, builtinLookup_eq_fast]; kernel_rfl) (by decide +kernel) (by decide +kernel) (by decide +kernel)
    (by first | exact .inl (by decide +kernel) | exact .inr (by decide +kernel)) (by rw [isSubtype_type]; kernel_rfl)
theorem type_Pat_sub : typeOf (.builtin "re.Pattern.sub") = pure (.type "method_descriptor") := by show builtinType _ = _; rw [builtinType_eq_fast]; kernel_rfl
theorem entry_Pat_sub : entryFor table "re.Pattern.sub" = some Builtin.«re.Pattern.sub» := entryFor_of_tree (by kernel_rfl)
theorem slot_Pat_subn : Slot "re.Pattern" "subn" "re.Pattern.subn" :=
  .of (owner := "re.Pattern") (n := "subn") (by rw [typeLookup_type, builtinLookup_eq_fast]; kernel_rfl) (by decide +kernel) (by decide +kernel) (by decide +kernel)
    (by first | exact .inl (by decide +kernel) | exact .inr (by decide +kernel)) (by rw [isSubtype_type]; kernel_rfl)
theorem type_Pat_subn : typeOf (.builtin "re.Pattern.subn") = pure (.type "method_descriptor") := by show builtinType _ = _; rw [builtinType_eq_fast]; kernel_rfl
theorem entry_Pat_subn : entryFor table "re.Pattern.subn" = some Builtin.«re.Pattern.subn» := entryFor_of_tree (by kernel_rfl)
theorem slot_Mat_span : Slot "re.Match" "span" "re.Match.span" :=
  .of (owner := "re.Match") (n := "span") (by rw [typeLookup_type, builtinLookup_eq_fast]; kernel_rfl) (by decide +kernel) (by decide +kernel) (by decide +kernel)
    (by first | exact .inl (by decide +kernel) | exact .inr (by decide +kernel)) (by rw [isSubtype_type]; kernel_rfl)
theorem type_Mat_span : typeOf (.builtin "re.Match.span") = pure (.type "method_descriptor") := by show builtinType _ = _; rw [builtinType_eq_fast]; kernel_rfl
theorem entry_Mat_span : entryFor table "re.Match.span" = some Builtin.«re.Match.span» := entryFor_of_tree (by kernel_rfl)
theorem slot_Mat_group : Slot "re.Match" "group" "re.Match.group" :=
  .of (owner := "re.Match") (n := "group") (by rw [typeLookup_type, builtinLookup_eq_fast]; kernel_rfl) (by decide +kernel) (by decide +kernel) (by decide +kernel)
    (by first | exact .inl (by decide +kernel) | exact .inr (by decide +kernel)) (by rw [isSubtype_type]; kernel_rfl)
theorem type_Mat_group : typeOf (.builtin "re.Match.group") = pure (.type "method_descriptor") := by show builtinType _ = _; rw [builtinType_eq_fast]; kernel_rfl
theorem entry_Mat_group : entryFor table "re.Match.group" = some Builtin.«re.Match.group» := entryFor_of_tree (by kernel_rfl)
end Mine

end
section
open PySem PySem.Calls PySem.Builtin.Re
set_option linter.unusedVariables false
set_option linter.unusedSimpArgs false
set_option maxRecDepth 100000
namespace Mine
section
variable {M : Model} {A : Around} {E : Value → Shared → Prop} {s : Shared}
theorem wp_rawItems {tup : Addr} {ot : Obj} {items : Array Value} {n : Nat} {Q : Array Int → Shared → Prop} (ht : s.heap.get? tup = some ot) (htd : ot.data = .seq items n) (k : Q (items.map reRawOf) s) :
    wpAny M A (reRawItems (.ref tup)) Q E s := by
  unfold reRawItems seqItems?
  refine wpAny_bind (wpAny_bind (wpAny_load ht ?_))
  rw [htd]
  exact wpAny_pure (wpAny_pure k)
/-- what a pattern is, in the heap -/
structure PatAt (h : Heap) (p : Addr) (g : Nat) (C : Array Nat) : Prop where
  ex : ∃ o vs tup ot items n, h.get? p = some o ∧ o.cls = .type "re.Pattern" ∧ o.dict = none ∧ o.data = .fields vs ∧ reRawNat (vs.getD 6 .none) = 0 ∧ vs.getD 5 .none = .ref tup ∧ reRawNat (vs.getD 2 .none) = g ∧
    h.get? tup = some ot ∧ ot.data = .seq items n ∧ (items.map reRawOf).map (·.toNat) = C
theorem PatAt.mono {h h' : Heap} {p : Addr} {g : Nat} {C : Array Nat} (x : PatAt h p g C) (k : ∀ b o, h.get? b = some o → h'.get? b = some o) : PatAt h' p g C := by
  obtain ⟨o, vs, tup, ot, items, n, a1, a2, a3, a4, a5, a6, a7, a8, r⟩ := x
  exact ⟨o, vs, tup, ot, items, n, k _ _ a1, a2, a3, a4, a5, a6, a7, k _ _ a8, r⟩
theorem PatAt.typeIs {p : Addr} {g : Nat} {C : Array Nat} (x : PatAt s.heap p g C) : s.TypeIs (.ref p) "re.Pattern" := by
  obtain ⟨o, vs, tup, ot, items, n, a1, a2, _⟩ := x
  exact ⟨o, a1, a2⟩
theorem wp_target {id f : String} {p : Addr} {T : Str} {tk : Tok} {g : Nat} {C : Array Nat} {Q : ReTarget → Shared → Prop} (hn : reNamed id f ["string", "pos", "endpos"] 1 [.str T tk] [] = pure [some (.str T tk), none, none])
    (hp : PatAt s.heap p g C) (hz : T.cps.size ≤ 100000)
    (k : Q { pattern := .ref p, string := .str T tk, code := C, text := T.cps, kind := 0, groups := g, pos := 0, lim := T.cps.size } s) : wpAny M A (reTarget id f ⟨[.ref p, .str T tk], []⟩) Q E s := by
  obtain ⟨o, vs, tup, ot, items, n, a1, a2, a3, a4, a5, a6, a7, a8, a9, a10⟩ := hp
  unfold reTarget
  dsimp only
  rw [hn]
  refine wpAny_bind (wpAny_pure ?_)
  dsimp only
  refine wpAny_bind (wpAny_pure (wpAny_bind (wpAny_pure ?_)))
  refine wpAny_bind (wpAny_fieldsOf a1 a4 ?_)
  unfold reTextOf
  refine wpAny_bind (wpAny_bind (m := asStr? (.str T tk)) (wpAny_pure (wpAny_pure ?_)))
  dsimp only
  rw [a5, a6, a7]
  simp only [beq_self_eq_true, Bool.true_and, show ((0 : Nat) == 1) = false from rfl, Bool.false_and, Bool.false_eq_true, if_false, Bool.and_true]
  refine wpAny_bind (wpAny_pure ?_)
  refine wpAny_bind (wp_rawItems a8 a9 (wpAny_pure ?_))
  have e1 : min (Int.toNat 0) T.cps.size = 0 := by simp
  have e2 : min ((2 : Int) ^ 63 - 1).toNat T.cps.size = T.cps.size := by
    have : ((2 : Int) ^ 63 - 1).toNat = 9223372036854775807 := by decide
    omega
  rw [e1, e2, a10]
  exact k

/-- the objects of a match with one group -/
noncomputable def spanObj (vs : List Int) : Obj := { cls := .type "tuple", data := .seq (vs.map rawInt).toArray }
noncomputable def matObj (p : Addr) (T : Str) (tk : Tok) (pos lim : Nat) (li : Int) (tp : Addr) : Obj :=
  { cls := .type "re.Match", data := .fields #[.str T tk, .ref p, rawInt pos, rawInt lim, rawInt li, .ref tp] }
theorem wp_newMatch1 {p : Addr} {T : Str} {tk : Tok} {pos lim a b c d : Nat} {m : Sre.M} {Q : Value → Shared → Prop} (w : Won m a b 1 1 #[some c, some d]) (hcd : c ≤ d)
    (k : Q (.ref (s.heap.objs.size + 1)) { s with heap := (s.heap.push (spanObj [a, b, c, d])).push (matObj p T tk pos lim 1 s.heap.objs.size) }) :
    wpAny M A (reNewMatch (.ref p) (.str T tk) 1 pos lim m) Q E s := by
  obtain ⟨C', T', lim', st, ls, wt, ma, pc, ps, hd, om, mk, lm, li, lo, inn, fr, ww, an, sn, oc⟩ := m
  obtain ⟨w1, w2, w3, w4, w5, w6⟩ := w
  dsimp only at w1 w2 w3 w4 w5 w6
  subst w2 w3 w4 w5 w6
  unfold reNewMatch
  dsimp only
  split
  · rename_i h
    exfalso
    have h' : ((decide ((1 : Int) ≤ 1) && decide (d < c)) || false) = true := h
    simp at h'
    omega
  · refine wpAny_bind (wpAny_newTuple ?_ (by show 4 ≤ sizeLine; decide))
    unfold newFields
    refine wpAny_newObj_type ?_ ?_
    · have hs : (s.heap.push (spanObj [(st : Int), hd, c, d])).objs.size = s.heap.objs.size + 1 := Heap.size_push _ _
      show Q (.ref (s.heap.push (spanObj [(st : Int), hd, c, d])).objs.size) _
      rw [hs]
      exact k
    · show 6 ≤ sizeLine + 2
      decide
theorem wp_newMatch0 {p : Addr} {T : Str} {tk : Tok} {pos lim a b : Nat} {m : Sre.M} {Q : Value → Shared → Prop} (w : Won m a b (-1) (-1) #[])
    (k : Q (.ref (s.heap.objs.size + 1)) { s with heap := (s.heap.push (spanObj [a, b])).push (matObj p T tk pos lim (-1) s.heap.objs.size) }) :
    wpAny M A (reNewMatch (.ref p) (.str T tk) 0 pos lim m) Q E s := by
  obtain ⟨C', T', lim', st, ls, wt, ma, pc, ps, hd, om, mk, lm, li, lo, inn, fr, ww, an, sn, oc⟩ := m
  obtain ⟨w1, w2, w3, w4, w5, w6⟩ := w
  dsimp only at w1 w2 w3 w4 w5 w6
  subst w2 w3 w4 w5 w6
  unfold reNewMatch
  dsimp only
  split
  · rename_i h
    exact absurd (show false = true from h) (by decide)
  · refine wpAny_bind (wpAny_newTuple ?_ (by show 2 ≤ sizeLine; decide))
    unfold newFields
    refine wpAny_newObj_type ?_ ?_
    · have hs : (s.heap.push (spanObj [(st : Int), hd])).objs.size = s.heap.objs.size + 1 := Heap.size_push _ _
      show Q (.ref (s.heap.push (spanObj [(st : Int), hd])).objs.size) _
      rw [hs]
      exact k
    · show 6 ≤ sizeLine + 2
      decide
end
section
variable {prog : Program} {w : World} {A : Around} {E : Value → Shared → Prop} {s : Shared}
theorem named_search (v : Value) : reNamed "re.Pattern.search" "search" ["string", "pos", "endpos"] 1 [v] [] = pure [some v, none, none] := by kernel_rfl
theorem named_fullmatch (v : Value) : reNamed "re.Pattern.fullmatch" "fullmatch" ["string", "pos", "endpos"] 1 [v] [] = pure [some v, none, none] := by kernel_rfl
theorem args_search (a b : Value) : argsOk "re.Pattern.search" ⟨[a, b], []⟩ := by unfold argsOk; kernel_rfl
theorem args_fullmatch (a b : Value) : argsOk "re.Pattern.fullmatch" ⟨[a, b], []⟩ := by unfold argsOk; kernel_rfl

theorem search_won {p : Addr} {T : Str} {tk : Tok} {C : Array Nat} {N a b c d : Nat} {Q : Value → Shared → Prop} (hp : PatAt s.heap p 1 C) (hz : T.cps.size ≤ 100000)
    (e : Ends N (Sre.forSearch C T.cps 1 0 T.cps.size false) (fun m => Won m a b 1 1 #[some c, some d])) (hN : N ≤ 2 ^ 60) (hcd : c ≤ d)
    (k : Q (.ref (s.heap.objs.size + 1)) { s with heap := (s.heap.push (spanObj [a, b, c, d])).push (matObj p T tk 0 T.cps.size 1 s.heap.objs.size) }) :
    wpAny (model prog w) A (call (.builtin "re.Pattern.search") [.ref p, .str T tk]) Q E s := by
  refine wpAny_call_entry slot_Pat_search hp.typeIs entry_Pat_search ?_ (args_search _ _)
  unfold Builtin.«re.Pattern.search»
  refine wpAny_bind (wp_target (named_search _) hp hz ?_)
  unfold reAnswer
  refine wpAny_bind (wp_won e hN fun m' w => ?_)
  dsimp only
  exact wpAny_bind (wp_newMatch1 w hcd (wpAny_pure ⟨_, rfl, k⟩))
theorem search_lost {p : Addr} {T : Str} {tk : Tok} {C : Array Nat} {N : Nat} {Q : Value → Shared → Prop} (hp : PatAt s.heap p 1 C) (hz : T.cps.size ≤ 100000)
    (e : Ends N (Sre.forSearch C T.cps 1 0 T.cps.size false) Lost) (hN : N ≤ 2 ^ 60) (k : Q .none s) :
    wpAny (model prog w) A (call (.builtin "re.Pattern.search") [.ref p, .str T tk]) Q E s := by
  refine wpAny_call_entry slot_Pat_search hp.typeIs entry_Pat_search ?_ (args_search _ _)
  unfold Builtin.«re.Pattern.search»
  refine wpAny_bind (wp_target (named_search _) hp hz ?_)
  unfold reAnswer
  exact wpAny_bind (wp_lost e hN (wpAny_pure ⟨_, rfl, k⟩))
theorem full_won {p : Addr} {T : Str} {tk : Tok} {C : Array Nat} {N a b : Nat} {Q : Value → Shared → Prop} (hp : PatAt s.heap p 0 C) (hz : T.cps.size ≤ 100000)
    (e : Ends N (Sre.forMatch C T.cps 0 0 T.cps.size true false) (fun m => Won m a b (-1) (-1) #[])) (hN : N ≤ 2 ^ 60)
    (k : Q (.ref (s.heap.objs.size + 1)) { s with heap := (s.heap.push (spanObj [a, b])).push (matObj p T tk 0 T.cps.size (-1) s.heap.objs.size) }) :
    wpAny (model prog w) A (call (.builtin "re.Pattern.fullmatch") [.ref p, .str T tk]) Q E s := by
  refine wpAny_call_entry slot_Pat_fullmatch hp.typeIs entry_Pat_fullmatch ?_ (args_fullmatch _ _)
  unfold Builtin.«re.Pattern.fullmatch»
  refine wpAny_bind (wp_target (named_fullmatch _) hp hz ?_)
  unfold reAnswer
  refine wpAny_bind (wp_won e hN fun m' w => ?_)
  dsimp only
  exact wpAny_bind (wp_newMatch0 w (wpAny_pure ⟨_, rfl, k⟩))
theorem full_lost {p : Addr} {T : Str} {tk : Tok} {C : Array Nat} {N : Nat} {Q : Value → Shared → Prop} (hp : PatAt s.heap p 0 C) (hz : T.cps.size ≤ 100000)
    (e : Ends N (Sre.forMatch C T.cps 0 0 T.cps.size true false) Lost) (hN : N ≤ 2 ^ 60) (k : Q .none s) :
    wpAny (model prog w) A (call (.builtin "re.Pattern.fullmatch") [.ref p, .str T tk]) Q E s := by
  refine wpAny_call_entry slot_Pat_fullmatch hp.typeIs entry_Pat_fullmatch ?_ (args_fullmatch _ _)
  unfold Builtin.«re.Pattern.fullmatch»
  refine wpAny_bind (wp_target (named_fullmatch _) hp hz ?_)
  unfold reAnswer
  exact wpAny_bind (wp_lost e hN (wpAny_pure ⟨_, rfl, k⟩))
end
end Mine

end
section
open PySem PySem.Calls PySem.Builtin.Re
set_option linter.unusedVariables false
set_option linter.unusedSimpArgs false
set_option maxRecDepth 100000
namespace Mine
/-- a match in the heap: its text, its numbers -/
structure MatAt (h : Heap) (a : Addr) (T : Str) (tk : Tok) (sp : Array Int) : Prop where
  ex : ∃ o vs tp ot items n, h.get? a = some o ∧ o.cls = .type "re.Match" ∧ o.dict = none ∧ o.data = .fields vs ∧ vs[0]? = some (.str T tk) ∧ vs[5]? = some (.ref tp) ∧ h.get? tp = some ot ∧ ot.data = .seq items n ∧ items.map reRawOf = sp
theorem MatAt.mono {h h' : Heap} {a : Addr} {T : Str} {tk : Tok} {sp : Array Int} (x : MatAt h a T tk sp) (k : ∀ b o, h.get? b = some o → h'.get? b = some o) : MatAt h' a T tk sp := by
  obtain ⟨o, vs, tp, ot, items, n, a1, a2, a3, a4, a5, a6, a7, r⟩ := x
  exact ⟨o, vs, tp, ot, items, n, k _ _ a1, a2, a3, a4, a5, a6, k _ _ a7, r⟩
section
variable {s : Shared}
theorem MatAt.typeIs {a : Addr} {T : Str} {tk : Tok} {sp : Array Int} (x : MatAt s.heap a T tk sp) : s.TypeIs (.ref a) "re.Match" := by
  obtain ⟨o, vs, tp, ot, items, n, a1, a2, _⟩ := x
  exact ⟨o, a1, a2⟩
theorem MatAt.noDict {a : Addr} {T : Str} {tk : Tok} {sp : Array Int} (x : MatAt s.heap a T tk sp) : ∀ b, Value.ref a = .ref b → ∃ o, s.heap.get? b = some o ∧ o.dict = none := by
  obtain ⟨o, vs, tp, ot, items, n, a1, a2, a3, _⟩ := x
  intro b e
  cases e
  exact ⟨o, a1, a3⟩
end
theorem MatAt.made {h : Heap} {p : Addr} {T : Str} {tk : Tok} {pos lim : Nat} {li : Int} {l : List Int} : MatAt ((h.push (spanObj l)).push (matObj p T tk pos lim li h.objs.size)) (h.objs.size + 1) T tk l.toArray := by
  refine ⟨matObj p T tk pos lim li h.objs.size, #[.str T tk, .ref p, rawInt pos, rawInt lim, rawInt li, .ref h.objs.size], h.objs.size, spanObj l, (l.map rawInt).toArray, 0, ?_, rfl, rfl, rfl, rfl, rfl, ?_, rfl, ?_⟩
  · have hs : (h.push (spanObj l)).objs.size = h.objs.size + 1 := Heap.size_push _ _
    rw [← hs]
    exact Heap.get?_push_size _ rfl
  · exact Heap.get?_push_of_some _ (Heap.get?_push_size _ rfl)
  · simp only [List.map_toArray, List.map_map]
    congr 1
    rw [show reRawOf ∘ rawInt = id from rfl, List.map_id]
section
variable {M : Model} {A : Around} {E : Value → Shared → Prop} {s : Shared} {a : Addr} {T : Str} {tk : Tok} {sp : Array Int}
theorem wp_found {Q : ReFound → Shared → Prop} (hm : MatAt s.heap a T tk sp) (k : ∀ vs : Array Value, vs[0]? = some (.str T tk) → Q ⟨vs, sp⟩ s) : wpAny M A (reFound (.ref a)) Q E s := by
  obtain ⟨o, vs, tp, ot, items, n, a1, a2, a3, a4, a5, a6, a7, a8, a9⟩ := hm
  unfold reFound
  refine wpAny_bind (wpAny_fieldsOf a1 a4 ?_)
  have e5 : vs.getD 5 .none = .ref tp := by rw [Array.getD_eq_getD_getElem?, a6]; rfl
  rw [e5]
  refine wpAny_bind (wp_rawItems a7 a8 ?_)
  rw [a9]
  exact wpAny_pure (k vs a5)
theorem wp_groupNo {x : ReFound} {i : Nat} {u : Tok} {Q : Nat → Shared → Prop} (hi : 2 * i < x.spans.size) (k : Q i s) : wpAny M A (reGroupNumber x (.int i u)) Q E s := by
  unfold reGroupNumber
  refine wpAny_bind (m := asInt? (.int i u)) (wpAny_pure ?_)
  dsimp only [Option.isSome]
  refine wpAny_bind (m := asIndex (.int i u)) (wpAny_bind (m := asInt? (.int i u)) (wpAny_pure (wpAny_pure ?_)))
  rw [if_neg]
  · exact wpAny_pure (by simpa using k)
  · have h1 : decide ((i : Int) < 0) = false := decide_eq_false (by lia)
    have h2 : decide (2 * (i : Int) ≥ (x.spans.size : Int)) = false := decide_eq_false (by lia)
    rw [h1, h2]
    decide
theorem wp_groupText {x : ReFound} {i b e : Nat} {d : Value} {Q : Value → Shared → Prop} (h0 : x.fields.getD 0 .none = .str T tk) (hb : x.spans.getD (2 * i) (-1) = b) (he : x.spans.getD (2 * i + 1) (-1) = e) (hz : T.cps.size ≤ 100000)
    (k : Q (.str ⟨T.cps.extract b e⟩ s.toks) { s with toks := s.toks + 1 }) : wpAny M A (reGroupText x i d) Q E s := by
  unfold reGroupText
  rw [hb, he]
  dsimp only
  rw [if_neg]
  · rw [h0]
    unfold reTextOf
    refine wpAny_bind (wpAny_bind (m := asStr? (.str T tk)) (wpAny_pure (wpAny_pure ?_)))
    show wpAny M A (mkStr ⟨T.cps.extract b e⟩) Q E s
    refine wpAny_mkStr k ?_
    show (T.cps.extract b e).size ≤ sizeLine
    rw [Array.size_extract]
    show _ ≤ 2 ^ 24
    lia
  · have h1 : decide ((b : Int) < 0) = false := decide_eq_false (by lia)
    have h2 : decide ((e : Int) < 0) = false := decide_eq_false (by lia)
    rw [h1, h2]
    decide
end
section
variable {prog : Program} {w : World} {A : Around} {E : Value → Shared → Prop} {s : Shared} {a : Addr} {T : Str} {tk : Tok} {sp : Array Int}
theorem args_group (a b : Value) : argsOk "re.Match.group" ⟨[a, b], []⟩ := by unfold argsOk; kernel_rfl
theorem args_span (a b : Value) : argsOk "re.Match.span" ⟨[a, b], []⟩ := by unfold argsOk; kernel_rfl
theorem call_group {i b e : Nat} {u : Tok} {Q : Value → Shared → Prop} (hm : MatAt s.heap a T tk sp) (hi : 2 * i < sp.size) (hb : sp.getD (2 * i) (-1) = b) (he : sp.getD (2 * i + 1) (-1) = e) (hz : T.cps.size ≤ 100000)
    (k : Q (.str ⟨T.cps.extract b e⟩ s.toks) { s with toks := s.toks + 1 }) : wpAny (model prog w) A (call (.builtin "re.Match.group") [.ref a, .int i u]) Q E s := by
  refine wpAny_call_entry slot_Mat_group hm.typeIs entry_Mat_group ?_ (args_group _ _)
  unfold Builtin.«re.Match.group»
  refine wpAny_bind (m := noKeywords "Match.group" _) (wpAny_pure ?_)
  refine wpAny_bind (wp_found hm fun vs h0 => ?_)
  refine wpAny_bind (m := reGroupNumber ⟨vs, sp⟩ (.int i u)) (wp_groupNo (x := ⟨vs, sp⟩) hi ?_)
  refine wpAny_bind (wp_groupText (x := ⟨vs, sp⟩) (by rw [Array.getD_eq_getD_getElem?, h0]; rfl) hb he hz ?_)
  exact wpAny_pure ⟨_, rfl, k⟩
theorem call_span {i b e : Nat} {u : Tok} {Q : Value → Shared → Prop} (hm : MatAt s.heap a T tk sp) (hi : 2 * i < sp.size) (hb : sp.getD (2 * i) (-1) = b) (he : sp.getD (2 * i + 1) (-1) = e)
    (k : Q (.ref s.heap.objs.size) { s with heap := s.heap.push { cls := .type "tuple", data := .seq #[.int b s.toks, .int e (s.toks + 1)] }, toks := s.toks + 2 }) : wpAny (model prog w) A (call (.builtin "re.Match.span") [.ref a, .int i u]) Q E s := by
  refine wpAny_call_entry slot_Mat_span hm.typeIs entry_Mat_span ?_ (args_span _ _)
  unfold Builtin.«re.Match.span»
  unfold reOneGroup
  refine wpAny_bind (wpAny_bind (m := selfAndSome "Match.span" "span" 0 1 _) (wpAny_pure ?_))
  dsimp only
  refine wpAny_bind (wp_found hm fun vs h0 => ?_)
  refine wpAny_bind (wp_groupNo (x := ⟨vs, sp⟩) hi ?_)
  refine wpAny_pure ?_
  dsimp only
  rw [hb, he]
  refine wpAny_bind (wpAny_mkInt (wpAny_bind (wpAny_mkInt (wpAny_bind (wpAny_newTuple (wpAny_pure ⟨_, rfl, k⟩) (by show 2 ≤ sizeLine; decide))))))
end

namespace F
theorem slot_mb_get : Slot "member_descriptor" "__get__" "member_descriptor.__get__" :=
  .of (owner := "member_descriptor") (n := "__get__") (by rw [typeLookup_type, builtinLookup_eq_fast]; kernel_rfl) (by decide +kernel) (by decide +kernel) (by decide +kernel)
    (by first | exact .inl (by decide +kernel) | exact .inr (by decide +kernel)) (by rw [isSubtype_type]; kernel_rfl)
theorem lk_mb_set : typeLookup (.type "member_descriptor") "__set__" = pure (some (.builtin "member_descriptor.__set__")) := by rw [typeLookup_type, builtinLookup_eq_fast]; kernel_rfl
theorem entry_mb_get : entryFor table "member_descriptor.__get__" = some Builtin.«member_descriptor.__get__» := entryFor_of_tree (by kernel_rfl)
theorem args_mb_get (a b c : Value) : argsOk "member_descriptor.__get__" ⟨[a, b, c], []⟩ := by unfold argsOk; kernel_rfl
theorem type_string : typeOf (.builtin "re.Match.string") = pure (.type "member_descriptor") := by kernel_rfl
theorem entry_string : entryFor table "re.Match.string" = some Builtin.«re.Match.string» := entryFor_of_tree (by kernel_rfl)
theorem lk_string : typeLookup (.type "re.Match") "string" = pure (some (.builtin "re.Match.string")) := by rw [typeLookup_type, builtinLookup_eq_fast]; kernel_rfl
theorem owner_string : (".".intercalate ("re.Match.string".cutAt '.').dropLast) = "re.Match" := by decide +kernel
theorem sub_string : isSubtype (.type "re.Match") (.type (".".intercalate ("re.Match.string".cutAt '.').dropLast)) = pure true := by
  rw [owner_string, isSubtype_type]; kernel_rfl
theorem slot_ga : Slot "re.Match" "__getattribute__" "object.__getattribute__" :=
  .of (owner := "object") (n := "__getattribute__") (by rw [typeLookup_type, builtinLookup_eq_fast]; kernel_rfl) (by decide +kernel) (by decide +kernel) (by decide +kernel)
    (by first | exact .inl (by decide +kernel) | exact .inr (by decide +kernel)) (by rw [isSubtype_type]; kernel_rfl)
theorem entry_ga : entryFor table "object.__getattribute__" = some Builtin.«object.__getattribute__» := entryFor_of_tree (by kernel_rfl)
theorem args_ga (a b : Value) : argsOk "object.__getattribute__" ⟨[a, b], []⟩ := by unfold argsOk; kernel_rfl
end F
section
variable {prog : Program} {w : World} {A : Around} {E : Value → Shared → Prop} {h : Heap} {g : Array GenState} {d : Drawn} {t : Nat} {os : OsState} {a : Addr} {o : Obj} {vs : Array Value} {T : Str} {tk : Tok}
theorem string_get {R : Result → Shared → Prop} (hx : h.get? a = some o) (hc : o.cls = .type "re.Match") (hd : o.data = .fields vs) (h0 : vs[0]? = some (.str T tk)) (hq : R (.ok (.ret (.str T tk))) ⟨h, g, d, t, os⟩) :
    codeAny (model prog w) A (.call (.builtin "member_descriptor.__get__") ⟨[.builtin "re.Match.string", .ref a, .type "re.Match"], []⟩) R ⟨h, g, d, t, os⟩ := by
  have hT : (⟨h, g, d, t, os⟩ : Shared).TypeIs (.ref a) "re.Match" := ⟨_, hx, hc⟩
  have hT5 : (⟨h, g, d, t, os⟩ : Shared).TypeIs (.builtin "re.Match.string") "member_descriptor" := F.type_string
  have f8 := F.sub_string
  refine codeAny_call_builtin F.slot_mb_get.plain F.entry_mb_get (F.slot_mb_get.check _ _ _ _ _ _ _ _ hT5 (F.args_mb_get _ _ _) ?_)
  repeat (any_goals (first | assumption | wp_step))
  refine ⟨Code.quiet_builtin _ (by decide +kernel), codeAny_builtin F.entry_string ?_⟩
  unfold Builtin.«re.Match.string»
  exact wpAny_bind (m := field (.ref a) 0) (wpAny_field hx hd h0 (wpAny_pure hq))
theorem string_entry {tk' : Tok} {Q : Fin → Shared → Prop} (hx : h.get? a = some o) (hc : o.cls = .type "re.Match") (hd : o.data = .fields vs) (h0 : vs[0]? = some (.str T tk)) (hq : Q (.done (.ret (.str T tk))) ⟨h, g, d, t, os⟩) :
    wpAny (model prog w) A (Builtin.«object.__getattribute__» ⟨[.ref a, .str "string" tk'], []⟩) Q E ⟨h, g, d, t, os⟩ := by
  have hT : (⟨h, g, d, t, os⟩ : Shared).TypeIs (.ref a) "re.Match" := ⟨_, hx, hc⟩
  have hT5 : (⟨h, g, d, t, os⟩ : Shared).TypeIs (.builtin "re.Match.string") "member_descriptor" := F.type_string
  have f4 := F.lk_string
  have f5 := F.type_string
  have f6 := F.slot_mb_get.lookup
  have f7 := F.lk_mb_set
  repeat (any_goals (first | assumption | wp_step))
  refine string_get hx hc hd h0 ?_
  repeat (any_goals (first | assumption | wp_step))
theorem string_attr {expr : Bool} {Q : Value → Shared → Prop} (hx : h.get? a = some o) (hc : o.cls = .type "re.Match") (hd : o.data = .fields vs) (h0 : vs[0]? = some (.str T tk)) (hq : Q (.str T tk) ⟨h, g, d, t + 1, os⟩) :
    wpAny (model prog w) A (getAttr (.ref a) "string" expr) Q E ⟨h, g, d, t, os⟩ := by
  have hT : (⟨h, g, d, t + 1, os⟩ : Shared).TypeIs (.ref a) "re.Match" := ⟨_, hx, hc⟩
  have f2 := F.slot_ga.lookup
  have f3 := F.slot_ga.bind (.ref a)
  have hx0 : (expr && onTheHeap (Value.builtin "object.__getattribute__")) = false := by cases expr <;> rfl
  unfold getAttr
  repeat (any_goals (first | assumption | wp_step))
  refine codeAny_call_builtin F.slot_ga.plain F.entry_ga (F.slot_ga.check _ _ _ _ _ _ _ _ hT (F.args_ga _ _) (string_entry hx hc hd h0 ?_))
  repeat (any_goals (first | assumption | wp_step))
theorem string_of {s : Shared} {sp : Array Int} {expr : Bool} {Q : Value → Shared → Prop} (hm : MatAt s.heap a T tk sp) (hq : Q (.str T tk) { s with toks := s.toks + 1 }) : wpAny (model prog w) A (getAttr (.ref a) "string" expr) Q E s := by
  obtain ⟨o, vs, tp, ot, items, n, a1, a2, a3, a4, a5, _⟩ := hm
  exact string_attr a1 a2 a4 a5 hq
end
end Mine

end
section
open PySem PySem.Calls PySem.Builtin.Re PyProof.Rows
set_option linter.unusedVariables false
set_option linter.unusedSimpArgs false
set_option maxRecDepth 100000
namespace Mine
noncomputable def Stays (h h' : Heap) : Prop := ∀ b o, h.get? b = some o → h'.get? b = some o
theorem Stays.rfl {h : Heap} : Stays h h := fun _ _ e => e
theorem Stays.trans {h h' h'' : Heap} (a : Stays h h') (b : Stays h' h'') : Stays h h'' := fun x o e => b x o (a x o e)
theorem Stays.push {h : Heap} (o : Obj) : Stays h (h.push o) := fun _ _ e => Heap.get?_push_of_some _ e
theorem Stays.update {h h' : Heap} (k : Stays h h') {a : Addr} (f : Obj → Obj) (e : h.get? a = none) : Stays h (h'.update a f) := fun b o q => by
  have hab : a ≠ b := by intro z; subst z; rw [e] at q; cases q
  rw [Heap.get?_update_other _ _ hab]; exact k b o q

inductive SubRun (C T : Array Nat) (pre : List Nat) : Nat → List Str → Prop
  | stop {done N : Nat} : done ≤ T.size → N ≤ 2 ^ 60 → Ends N (Sre.forSearch C T 1 done T.size false) Lost → SubRun C T pre done (if done < T.size then [⟨T.extract done T.size⟩] else [])
  | next {done N a b c d : Nat} {out : List Str} : done ≤ a → a < b → c ≤ d → d ≤ T.size → N ≤ 2 ^ 60 → Ends N (Sre.forSearch C T 1 done T.size false) (fun m => Won m a b 1 1 #[some c, some d]) → SubRun C T pre b out →
      SubRun C T pre done ((if done < a then [⟨T.extract done a⟩] else []) ++ ⟨(pre ++ (T.extract c d).toList).toArray⟩ :: out)

section
variable {M : Model} {A : Around} {E : Value → Shared → Prop} {s : Shared}
theorem wp_whole {p : Addr} {T : Str} {tk : Tok} {g : Nat} {C : Array Nat} {Q : ReTarget → Shared → Prop}
    (hp : PatAt s.heap p g C)
    (k : Q { pattern := .ref p, string := .str T tk, code := C, text := T.cps, kind := 0, groups := g, pos := 0, lim := T.cps.size } s) : wpAny M A (reWholeTarget (.ref p) (.str T tk)) Q E s := by
  obtain ⟨o, vs, tup, ot, items, n, a1, a2, a3, a4, a5, a6, a7, a8, a9, a10⟩ := hp
  unfold reWholeTarget
  refine wpAny_bind (wpAny_fieldsOf a1 a4 ?_)
  unfold reTextOf
  refine wpAny_bind (wpAny_bind (m := asStr? (.str T tk)) (wpAny_pure (wpAny_pure ?_)))
  dsimp only
  rw [a5, a6, a7]
  simp only [beq_self_eq_true, Bool.true_and, show ((0 : Nat) == 1) = false from rfl, Bool.false_and, Bool.false_eq_true, if_false, Bool.and_true]
  refine wpAny_bind (wpAny_pure ?_)
  refine wpAny_bind (wp_rawItems a8 a9 (wpAny_pure ?_))
  rw [a10]
  exact k
theorem isList_upd {h : Heap} {l : Addr} {items : Array Value} (x : h.IsList l items) (f : Array Value → Array Value) : (h.update l (Obj.mapSeq f)).IsList l (f items) := by
  obtain ⟨⟨c, d, dt, sl⟩, ho, hc, n, hd⟩ := x
  dsimp only at hc hd
  subst hc hd
  exact ⟨_, Heap.get?_update_self _ ho rfl, rfl, _, rfl⟩
theorem wp_pushStr {l : Addr} {items : Array Value} {v : Value} {Q : Unit → Shared → Prop} (hl : s.heap.IsList l items) (hz : items.size ≤ 1000000)
    (k : (s.heap.update l (Obj.mapSeq (·.push v))).IsList l (items.push v) → Q () { s with heap := s.heap.update l (Obj.mapSeq (·.push v)) }) : wpAny M A (updateSeq l (·.push v)) Q E s := by
  have hk := isList_upd hl (·.push v)
  obtain ⟨o, ho, hc, n, hd⟩ := hl
  refine wpAny_updateSeq ho hd (k hk) (by show _ ≤ 2 ^ 24; lia) ?_
  show (items.push v).size ≤ 2 ^ 24 + 1
  rw [Array.size_push]
  lia
end

theorem StrsAre.snoc : ∀ {vs : List Value} {ys : List Str} (y : Str) (t : Tok), StrsAre vs ys → StrsAre (vs ++ [.str y t]) (ys ++ [y])
  | _, _, y, t, .nil => .cons y t .nil
  | _, _, y, t, .cons z u h => .cons z u (StrsAre.snoc y t h)
theorem StrsAre.len : ∀ {vs : List Value} {ys : List Str}, StrsAre vs ys → vs.length = ys.length
  | _, _, .nil => rfl
  | _, _, .cons z u h => congrArg (· + 1) (StrsAre.len h)
noncomputable def weight (ys : List Str) : Nat := (ys.map (·.length)).sum
theorem weight_append (a b : List Str) : weight (a ++ b) = weight a + weight b := by simp [weight, List.map_append, List.sum_append]

/-- what a callback does: it makes a text of the match's first group -/
noncomputable def Callback (prog : Program) (w : World) (A : Around) (s : Shared) (repl : Value) (T : Str) (tk : Tok) (pre : List Nat) : Prop :=
  ∀ (h : Heap) (t : Tok) (a : Addr) (x y c d : Nat) (Q E : Value → Shared → Prop), Stays s.heap h → MatAt h a T tk #[x, y, c, d] → c ≤ d → d ≤ T.cps.size →
    (∀ h' t' u, Stays h h' → Q (.str ⟨(pre ++ (T.cps.extract c d).toList).toArray⟩ u) { s with heap := h', toks := t' }) →
    wpAny (model prog w) A.in1 (call repl [.ref a]) Q E { s with heap := h, toks := t }

theorem entry_loop : entryFor table "re.Pattern.sub.loop" = some Builtin.«re.Pattern.sub.loop» := entryFor_of_tree (by kernel_rfl)
theorem plain_loop : plainId "re.Pattern.sub.loop" = true := by decide +kernel
theorem quiet_loop (args : Args) : (Code.builtin "re.Pattern.sub.loop" args).quiet = true := plainId_quiet plain_loop args

section
variable {prog : Program} {w : World} {A : Around} {s : Shared}
theorem wp_slice {M : Model} {A : Around} {E : Value → Shared → Prop} {s : Shared} {T : Array Nat} {b e : Nat} {Q : Value → Shared → Prop} (hz : T.size ≤ 100000) (k : Q (.str ⟨T.extract b e⟩ s.toks) { s with toks := s.toks + 1 }) :
    wpAny M A (reSlice T 0 b e) Q E s := by
  refine wpAny_mkStr k ?_
  show (T.extract b e).size ≤ sizeLine
  rw [Array.size_extract]
  show _ ≤ 2 ^ 24
  lia
theorem sub_loop {p : Addr} {repl : Value} {T : Str} {tk : Tok} {C : Array Nat} {pre : List Nat} (hz : T.cps.size ≤ 100000) (cb : Callback prog w A s repl T tk pre) (hp : PatAt s.heap p 1 C) {R : Result → Shared → Prop} {total : List Str} (hw : weight total ≤ 1000000) (hlen : total.length ≤ 100000)
    (k : ∀ h t u, Stays s.heap h → R (.ok (.ret (.str (PySem.Txt.join ⟨#[]⟩ total) u))) { s with heap := h, toks := t }) {done : Nat} {out : List Str} (H : SubRun C T.cps pre done out) :
    ∀ (h : Heap) (t : Nat) (l : Addr) (items : Array Value) (ys : List Str) (n : Nat) (u1 u2 u3 u4 u5 : Tok), Stays s.heap h → h.IsList l items → s.heap.get? l = none → StrsAre items.toList ys → ys ++ out = total →
      codeAny (model prog w) A (.builtin "re.Pattern.sub.loop" ⟨[.ref p, .str T tk, repl, .int 1 u1, .int 0 u2, .int n u3, .int done u4, .int done u5, .bool false, .ref l, .bool false], []⟩) R { s with heap := h, toks := t } := by
  induction H with
  | @stop done N hd hN e =>
    intro h t l items ys n u1 u2 u3 u4 u5 hst hl hnew hy ht
    refine codeAny_builtin entry_loop ?_
    rw [Around.under_plainId plain_loop]
    unfold Builtin.«re.Pattern.sub.loop»
    dsimp only
    refine wpAny_bind (wp_whole (hp.mono hst) ?_)
    rw [if_neg (by decide)]
    dsimp only
    refine wpAny_bind ?_
    rw [if_neg (by simp)]
    refine wp_lost e hN ?_
    dsimp only
    have fin : ∀ (h₂ : Heap) (t₂ : Nat) (items₂ : Array Value), Stays s.heap h₂ → h₂.IsList l items₂ → StrsAre items₂.toList total → wpAny (model prog w) A.in1 (do
        let joiner ← reSlice T.cps 0 0 0
        let text ← if ((← seqItems? (.ref l)).getD #[]).isEmpty then pure joiner
          else call (.builtin (if ((0 : Nat) == 0) = true then "str.join" else "bytes.join")) [joiner, .ref l]
        if false = true then ret (← holding [text] do newTuple [text, ← mkInt n]) else ret text)
        (fun fin s' => match fin with | .done f => R (.ok f) s' | .again c' => c'.quiet = true ∧ codeAny (model prog w) A c' R s') (fun e s' => R (.error e) s') { s with heap := h₂, toks := t₂ } := by
      intro h₂ t₂ items₂ hst₂ hl₂ hy₂
      refine wpAny_bind (wp_slice hz ?_)
      have e0 : (⟨T.cps.extract 0 0⟩ : Str) = ⟨#[]⟩ := by simp
      rw [e0]
      obtain ⟨o, ho, hc, n', hd'⟩ := id hl₂
      refine wpAny_bind (wpAny_bind (wpAny_load ho ?_))
      rw [hd']
      refine wpAny_pure ?_
      dsimp only [Option.getD]
      by_cases hq : items₂.isEmpty = true
      · rw [if_pos hq]
        refine wpAny_bind (wpAny_pure ?_)
        have : items₂ = #[] := by simpa using hq
        subst this
        have : total = [] := by cases hy₂; rfl
        subst this
        exact wpAny_pure (k h₂ _ _ hst₂)
      · rw [if_neg hq]
        refine wpAny_bind (join_listC hl₂ hy₂ (by decide) (by
          have : (List.map (fun x => x.length) total).sum ≤ 1000000 := hw
          lia) fun t' k' => ?_)
        exact wpAny_pure (k h₂ _ _ hst₂)
    have hdn : (done : Int).toNat = done := by simp
    by_cases hlt : done < T.cps.size
    · rw [if_pos hlt] at ht
      rw [if_pos (by rw [hdn]; exact hlt)]
      refine wpAny_bind (wp_slice hz ?_)
      have hyl := StrsAre.len hy
      have htl := congrArg List.length ht
      rw [List.length_append, List.length_singleton] at htl
      refine wpAny_bind (wp_pushStr hl (by rw [← Array.length_toList]; lia) fun hl' => ?_)
      refine fin _ _ _ (hst.update _ hnew) hl' ?_
      rw [Array.toList_push, ← ht, hdn]
      exact StrsAre.snoc _ _ hy
    · rw [if_neg hlt, List.append_nil] at ht
      subst ht
      rw [if_neg (by rw [hdn]; exact hlt)]
      exact fin _ _ _ hst hl hy
  | @next done N a b c d out hda hab hcd hd hN e hr ih =>
    intro h t l items ys n u1 u2 u3 u4 u5 hst hl hnew hy ht
    refine codeAny_builtin entry_loop ?_
    rw [Around.under_plainId plain_loop]
    unfold Builtin.«re.Pattern.sub.loop»
    dsimp only
    refine wpAny_bind (wp_whole (hp.mono hst) ?_)
    rw [if_neg (by decide)]
    dsimp only
    refine wpAny_bind ?_
    rw [if_neg (by simp)]
    refine wp_won e hN fun m' won => ?_
    dsimp only
    have hdn : (done : Int).toNat = done := by simp
    have hyl := StrsAre.len hy
    have htl := congrArg List.length ht
    -- the callback, then the next turn
    have rest : ∀ (h₂ : Heap) (t₂ : Nat) (items₂ : Array Value) (ys₂ : List Str), Stays s.heap h₂ → h₂.IsList l items₂ → StrsAre items₂.toList ys₂ → ys₂ ++ ⟨(pre ++ (T.cps.extract c d).toList).toArray⟩ :: out = total → wpAny (model prog w) A.in1 (do
        let item ← if ((1 : Int) == 0) = true then pure repl else do
          let found ← reNewMatch (.ref p) (.str T tk) 1 0 T.cps.size m'
          holding [found] (if ((1 : Int) == 1) = true then call repl [found] else do reExpand repl (← reFound found))
        if (item != .none) = true then updateSeq l (·.push item)
        again (.builtin "re.Pattern.sub.loop" ⟨[.ref p, .str T tk, repl, rawInt 1, rawInt 0, rawInt (n + 1), rawInt m'.handed, rawInt m'.handed, .bool (m'.handed == m'.start), .ref l, .bool false], []⟩))
        (fun fin s' => match fin with | .done f => R (.ok f) s' | .again c' => c'.quiet = true ∧ codeAny (model prog w) A c' R s') (fun e s' => R (.error e) s') { s with heap := h₂, toks := t₂ } := by
      intro h₂ t₂ items₂ ys₂ hst₂ hl₂ hy₂ ht₂
      refine wpAny_bind (wp_newMatch1 won hcd ?_)
      refine wpAny_bind (wpAny_holding ?_)
      rw [if_pos (by decide)]
      have grown : Stays h₂ ((h₂.push (spanObj [(a : Int), b, c, d])).push (matObj p T tk 0 T.cps.size 1 h₂.objs.size)) := (Stays.push _).trans (Stays.push _)
      refine cb _ _ _ a b c d _ _ (hst₂.trans grown) MatAt.made hcd hd fun h₃ t₃ u hst₃ => ?_
      dsimp only
      rw [if_pos (by rfl)]
      have hl₃ : h₃.IsList l items₂ := by
        obtain ⟨o, ho, r⟩ := hl₂
        exact ⟨o, hst₃ _ _ (grown _ _ ho), r⟩
      have hyl₂ := StrsAre.len hy₂
      have htl₂ := congrArg List.length ht₂
      rw [List.length_append, List.length_cons] at htl₂
      refine wpAny_bind (wp_pushStr hl₃ (by rw [← Array.length_toList]; lia) fun hl₄ => ?_)
      refine wpAny_pure (And.intro (quiet_loop _) ?_)
      rw [won.handed, won.start]
      have hne : (b == a) = false := by simpa using (by lia : b ≠ a)
      rw [hne]
      have := ih (h₃.update l (Obj.mapSeq (·.push (.str ⟨(pre ++ (T.cps.extract c d).toList).toArray⟩ u)))) t₃ l _ (ys₂ ++ [⟨(pre ++ (T.cps.extract c d).toList).toArray⟩]) (n + 1) 0 0 0 0 0 (((hst₂.trans grown).trans hst₃).update _ hnew) hl₄ hnew
        (by rw [Array.toList_push]; exact StrsAre.snoc _ _ hy₂) (by rw [List.append_assoc]; exact ht₂)
      exact this
    by_cases hlt : done < a
    · rw [if_pos hlt] at ht
      rw [if_pos (by rw [hdn, won.start]; exact hlt)]
      refine wpAny_bind (wp_slice hz ?_)
      have htl := congrArg List.length ht
      simp only [List.length_append, List.length_cons] at htl
      refine wpAny_bind (wp_pushStr hl (by rw [← Array.length_toList]; lia) fun hl' => ?_)
      refine rest _ _ _ (ys ++ [⟨T.cps.extract done a⟩]) (hst.update _ hnew) hl' ?_ (by rw [List.append_assoc]; exact ht)
      rw [Array.toList_push, hdn, won.start]
      exact StrsAre.snoc _ _ hy
    · rw [if_neg hlt, List.nil_append] at ht
      rw [if_neg (by rw [hdn, won.start]; exact hlt)]
      exact rest _ _ _ ys hst hl hy ht
end
end Mine

end
section
open PySem PySem.Calls PySem.Builtin.Re PyProof.Rows
set_option linter.unusedVariables false
set_option linter.unusedSimpArgs false
set_option maxRecDepth 100000
namespace Mine
theorem named_sub (a b : Value) : reNamed "re.Pattern.sub" "sub" ["repl", "string", "count"] 2 [a, b] [] = pure [some a, some b, none] := by kernel_rfl
theorem named_subn (a b : Value) : reNamed "re.Pattern.subn" "subn" ["repl", "string", "count"] 2 [a, b] [] = pure [some a, some b, none] := by kernel_rfl
theorem args_sub (a b c : Value) : argsOk "re.Pattern.sub" ⟨[a, b, c], []⟩ := by unfold argsOk; kernel_rfl
theorem args_subn (a b c : Value) : argsOk "re.Pattern.subn" ⟨[a, b, c], []⟩ := by unfold argsOk; kernel_rfl
theorem lk_fcall : typeLookup (.type "function") "__call__" = pure (some (.builtin "function.__call__")) := by rw [typeLookup_type, builtinLookup_eq_fast]; kernel_rfl
theorem lk_scall : typeLookup (.type "str") "__call__" = pure none := by rw [typeLookup_type, builtinLookup_eq_fast]; kernel_rfl
theorem sub_bytearray : isSubtype (.type "str") (.type "bytearray") = pure false := by rw [isSubtype_type]; kernel_rfl
section
variable {prog : Program} {w : World} {A : Around} {E : Value → Shared → Prop} {s : Shared}
theorem call_sub {p f : Addr} {T : Str} {tk : Tok} {C : Array Nat} {pre : List Nat} {out : List Str} {Q : Value → Shared → Prop} (hz : T.cps.size ≤ 100000) (hf : s.TypeIs (.ref f) "function") (hp : PatAt s.heap p 1 C)
    (cb : Callback prog w A s (.ref f) T tk pre) (H : SubRun C T.cps pre 0 out) (hw : weight out ≤ 1000000) (hlen : out.length ≤ 100000)
    (k : ∀ h t u, Stays s.heap h → Q (.str (PySem.Txt.join ⟨#[]⟩ out) u) { s with heap := h, toks := t }) :
    wpAny (model prog w) A (call (.builtin "re.Pattern.sub") [.ref p, .ref f, .str T tk]) Q E s := by
  refine wpAny_call (codeAny_call_builtin slot_Pat_sub.plain entry_Pat_sub (slot_Pat_sub.check _ _ _ _ _ _ _ _ hp.typeIs (args_sub _ _ _) ?_))
  unfold Builtin.«re.Pattern.sub» reSubstitute
  dsimp only
  rw [named_sub]
  refine wpAny_bind (wpAny_pure ?_)
  dsimp only
  refine wpAny_bind (wpAny_pure ?_)
  refine wpAny_bind (wpAny_specialOf hf lk_fcall ?_)
  dsimp only [Option.isSome]
  refine wpAny_bind (wpAny_pure ?_)
  rw [if_pos rfl]
  refine wpAny_bind (wpAny_pure ?_)
  dsimp only
  refine wpAny_bind (wpAny_holding (wp_whole hp ?_))
  rw [if_pos (by rfl)]
  refine wpAny_bind ?_
  unfold reNotHeld
  refine wpAny_bind (wpAny_isInstance_val rfl sub_bytearray ?_)
  rw [if_neg Bool.false_ne_true]
  refine wpAny_pure ?_
  refine wpAny_bind (wpAny_newList ?_ (by show 0 ≤ sizeLine; decide))
  refine wpAny_pure (And.intro (quiet_loop _) ?_)
  have hl : (s.heap.push { cls := .type "list", data := .seq ([] : List Value).toArray }).IsList s.heap.objs.size #[] := ⟨_, Heap.get?_push_size _ rfl, rfl, _, rfl⟩
  have hnew : s.heap.get? s.heap.objs.size = none := by
    cases q : s.heap.get? s.heap.objs.size with
    | none => rfl
    | some o => exact absurd (Heap.lt_size q) (Nat.lt_irrefl _)
  exact sub_loop (n := 0) hz cb hp hw hlen k H _ _ _ _ [] _ _ _ _ _ (Stays.push _) hl hnew .nil rfl

theorem wp_lit {M : Model} {A : Around} {E : Value → Shared → Prop} {s : Shared} {x : Str} {t : Tok} {Q : Unit → Shared → Prop} (k : Q () s) : wpAny M A (reLiteralCannotBeTurned (.str x t)) Q E s :=
  wpAny_bind (m := asStr? (.str x t)) (wpAny_pure (wpAny_pure k))
/-- the twin's subn with an empty text: the junk at the head, once -/
theorem call_subn {p : Addr} {T : Str} {tk t1 : Tok} {n : Nat} {Q : Value → Shared → Prop} (hz : T.cps.size ≤ 100000) (hp : PatAt s.heap p 0 CW) (hn : 0 < n) (hle : n ≤ T.cps.size) (hj : ∀ q, q < n → junk (T.cps.getD q 0) = true) (he : n = T.cps.size ∨ junk (T.cps.getD n 0) = false)
    (k : ∀ h t u u', Stays s.heap h → Stays s.heap (h.push { cls := .type "tuple", data := .seq #[.str ⟨T.cps.extract n T.cps.size⟩ u, .int 1 u'] }) → s.heap.objs.size ≤ h.objs.size →
      Q (.ref h.objs.size) { s with heap := h.push { cls := .type "tuple", data := .seq #[.str ⟨T.cps.extract n T.cps.size⟩ u, .int 1 u'] }, toks := t }) :
    wpAny (model prog w) A (call (.builtin "re.Pattern.subn") [.ref p, .str ⟨#[]⟩ t1, .str T tk]) Q E s := by
  refine wpAny_call (codeAny_call_builtin slot_Pat_subn.plain entry_Pat_subn (slot_Pat_subn.check _ _ _ _ _ _ _ _ hp.typeIs (args_subn _ _ _) ?_))
  unfold Builtin.«re.Pattern.subn» reSubstitute
  dsimp only
  rw [named_subn]
  refine wpAny_bind (wpAny_pure ?_)
  dsimp only
  refine wpAny_bind (wpAny_pure ?_)
  refine wpAny_bind (wpAny_specialOf_val rfl lk_scall ?_)
  dsimp only [Option.isSome]
  rw [if_neg Bool.false_ne_true]
  refine wpAny_bind (m := asStr? (.str ⟨#[]⟩ t1)) (wpAny_pure ?_)
  dsimp only
  refine wpAny_bind (wpAny_pure ?_)
  rw [if_neg Bool.false_ne_true]
  rw [if_pos (by simp)]
  refine wpAny_bind (wpAny_pure ?_)
  dsimp only
  refine wpAny_bind (wpAny_holding (wp_whole hp ?_))
  rw [if_neg (by decide)]
  refine wpAny_bind (wpAny_newList ?_ (by show 0 ≤ sizeLine; decide))
  refine wpAny_pure (And.intro (quiet_loop _) ?_)
  have hl : (s.heap.push { cls := .type "list", data := .seq ([] : List Value).toArray }).IsList s.heap.objs.size #[] := ⟨_, Heap.get?_push_size _ rfl, rfl, _, rfl⟩
  have hnew : s.heap.get? s.heap.objs.size = none := by
    cases q : s.heap.get? s.heap.objs.size with
    | none => rfl
    | some o => exact absurd (Heap.lt_size q) (Nat.lt_irrefl _)
  have st1 : Stays s.heap (s.heap.push { cls := .type "list", data := .seq ([] : List Value).toArray }) := Stays.push _
  -- the first turn: the junk is found
  refine codeAny_builtin entry_loop ?_
  rw [Around.under_plainId plain_loop]
  unfold Builtin.«re.Pattern.sub.loop»
  dsimp only
  refine wpAny_bind (wp_whole (hp.mono st1) ?_)
  rw [if_pos (by decide)]
  refine wpAny_bind ?_
  refine wp_lit ?_
  dsimp only
  refine wpAny_bind ?_
  rw [if_neg (by simp)]
  unfold reNextFound
  dsimp only
  rw [show Int.toNat 0 = 0 from rfl]
  have ew := twin_won n hz hj hle he
  revert ew
  generalize Sre.forSearch CW T.cps 0 0 T.cps.size false = m0
  intro ew
  refine wp_won ew (by omega) fun m' won => ?_
  dsimp only
  rw [if_neg (by rw [won.start]; simp)]
  refine wpAny_bind (m := pure (Value.str ⟨#[]⟩ t1)) (wpAny_pure ?_)
  rw [if_pos (by rfl)]
  refine wpAny_bind (wp_pushStr hl (by simp) fun hl₂ => ?_)
  refine wpAny_pure (And.intro (quiet_loop _) ?_)
  rw [won.handed, won.start]
  rw [show (n == 0) = false by simpa using (by omega : n ≠ 0)]
  have st2 := st1.update (Obj.mapSeq (·.push (.str ⟨#[]⟩ t1))) hnew
  -- the second turn: none
  refine codeAny_builtin entry_loop ?_
  rw [Around.under_plainId plain_loop]
  unfold Builtin.«re.Pattern.sub.loop»
  dsimp only
  refine wpAny_bind (wp_whole (hp.mono st2) ?_)
  rw [if_pos (by decide)]
  refine wpAny_bind ?_
  refine wp_lit ?_
  dsimp only
  refine wpAny_bind ?_
  rw [if_neg (by simp)]
  have en : (n : Int).toNat = n := by simp
  unfold reNextFound
  dsimp only
  rw [en]
  have el := twin_lost n hz hle hn
  revert el
  generalize Sre.forSearch CW T.cps 0 n T.cps.size false = m1
  intro el
  refine wp_lost el (by omega) ?_
  dsimp only
  have fin : ∀ (h₂ : Heap) (t₂ : Nat) (items₂ : Array Value) (ys : List Str), Stays s.heap h₂ → s.heap.objs.size ≤ h₂.objs.size → h₂.IsList s.heap.objs.size items₂ → StrsAre items₂.toList ys → ys ≠ [] → weight ys ≤ 1000000 → ys.length ≤ 10 → PySem.Txt.join ⟨#[]⟩ ys = ⟨T.cps.extract n T.cps.size⟩ → wpAny (model prog w) A.in1 (do
      let joiner ← reSlice T.cps 0 0 0
      let text ← if ((← seqItems? (.ref s.heap.objs.size)).getD #[]).isEmpty then pure joiner
        else call (.builtin (if ((0 : Nat) == 0) = true then "str.join" else "bytes.join")) [joiner, .ref s.heap.objs.size]
      if true = true then ret (← holding [text] do newTuple [text, ← mkInt (0 + 1)]) else ret text)
      (fun fin s' => match fin with | .done f => (match (Except.ok f : Result) with | .ok (.ret v) => Q v s' | .ok _ => False | .error e => E e s') | .again c' => c'.quiet = true ∧ codeAny (model prog w) A c' (fun r s' => match r with | .ok (.ret v) => Q v s' | .ok _ => False | .error e => E e s') s') (fun e s' => E e s') { s with heap := h₂, toks := t₂ } := by
    intro h₂ t₂ items₂ ys hst₂ hsz hl₂ hy₂ hne hw hlen hj
    refine wpAny_bind (wp_slice hz ?_)
    have e0 : (⟨T.cps.extract 0 0⟩ : Str) = ⟨#[]⟩ := by simp
    rw [e0]
    obtain ⟨o, ho, hc, n', hd'⟩ := id hl₂
    refine wpAny_bind (wpAny_bind (wpAny_load ho ?_))
    rw [hd']
    refine wpAny_pure ?_
    dsimp only [Option.getD]
    by_cases hq : items₂.isEmpty = true
    · exfalso
      have : items₂ = #[] := by simpa using hq
      subst this
      cases hy₂
      exact hne rfl
    · rw [if_neg hq]
      refine wpAny_bind (join_listC hl₂ hy₂ (by decide) (by
        have : (List.map (fun x => x.length) ys).sum ≤ 1000000 := hw
        omega) fun t' k' => ?_)
      rw [if_pos rfl, hj]
      refine wpAny_bind (wpAny_holding (wpAny_bind (wpAny_mkInt (wpAny_newTuple (wpAny_pure ?_) (by show 2 ≤ sizeLine; decide)))))
      exact k h₂ _ _ _ hst₂ (hst₂.trans (Stays.push _)) hsz
  have hs2 : s.heap.objs.size ≤ ((s.heap.push { cls := .type "list", data := .seq ([] : List Value).toArray }).update s.heap.objs.size (Obj.mapSeq (·.push (.str ⟨#[]⟩ t1)))).objs.size := by
    have h1 : ((s.heap.push { cls := .type "list", data := .seq ([] : List Value).toArray }).update s.heap.objs.size (Obj.mapSeq (·.push (.str ⟨#[]⟩ t1)))).objs.size = (s.heap.push { cls := .type "list", data := .seq ([] : List Value).toArray }).objs.size := (Heap.SameBut.update _ _ _).1
    rw [h1, Heap.size_push]
    omega
  by_cases hlt : n < T.cps.size
  · rw [if_pos hlt]
    refine wpAny_bind (wp_slice hz ?_)
    refine wpAny_bind (wp_pushStr hl₂ (by simp) fun hl₃ => ?_)
    refine fin _ _ _ [⟨#[]⟩, ⟨T.cps.extract n T.cps.size⟩] (st2.update _ hnew) ?_ hl₃ (.cons _ _ (.cons _ _ .nil)) (by simp) ?_ (by simp) ?_
    · exact Nat.le_trans hs2 (Nat.le_of_eq (Heap.SameBut.update _ _ _).1.symm)
    · show 0 + ((T.cps.extract n T.cps.size).size + 0) ≤ 1000000
      rw [Array.size_extract]; omega
    · show (⟨#[] ++ #[] ++ T.cps.extract n T.cps.size⟩ : Str) = _
      simp
  · rw [if_neg hlt]
    refine fin _ _ _ [⟨#[]⟩] st2 hs2 hl₂ (.cons _ _ .nil) (by simp) (by show 0 + 0 ≤ 1000000; omega) (by simp) ?_
    show (⟨#[]⟩ : Str) = _
    have : T.cps.extract n T.cps.size = #[] := by
      apply Array.eq_empty_of_size_eq_zero
      rw [Array.size_extract]; omega
    rw [this]
end
end Mine

end
section
open PySem PySem.W PySem.Calls PyProof.Rows
set_option linter.unusedVariables false
set_option linter.unusedSimpArgs false
set_option maxRecDepth 100000
namespace Mine
/-- the callee's base keeps what the caller had -/
theorem MatAt.ofNews {h₀ h : Heap} {L : Addr} {news : List (Addr × Obj)} {a p tp : Addr} {T : Str} {tk : Tok} {pos lim : Nat} {li : Int} {l : List Int} (N : News h₀ L h news) (h1 : (a, matObj p T tk pos lim li tp) ∈ news) (h2 : (tp, spanObj l) ∈ news) : MatAt h a T tk l.toArray := by
  refine ⟨_, _, tp, spanObj l, (l.map rawInt).toArray, 0, N.get h1, rfl, rfl, rfl, rfl, rfl, N.get h2, rfl, ?_⟩
  simp only [List.map_toArray, List.map_map]
  congr 1
  rw [show Builtin.Re.reRawOf ∘ rawInt = id from rfl, List.map_id]
section
variable {prog : Program} {w : World} {A : Around} {E : Value → Shared → Prop} {s : Shared} {a : Addr} {T : Str} {tk : Tok} {sp : Array Int} {h₀ : Heap} {L : Addr} {m : Str → Option Value} {news : List (Addr × Obj)}
theorem gm_span {M : Model} {pl : Sem Bool} {Q : Value × List Value → Shared → Prop} (hm : MatAt s.heap a T tk sp) (h : Q (.builtin "re.Match.span", [.ref a]) s) : wpAny M A (getMethod (.ref a) "span" pl) Q E s :=
  getMethod_builtin hm.typeIs plainAttrs_Mat slot_Mat_span type_Mat_span hm.noDict h
theorem gm_group {M : Model} {pl : Sem Bool} {Q : Value × List Value → Shared → Prop} (hm : MatAt s.heap a T tk sp) (h : Q (.builtin "re.Match.group", [.ref a]) s) : wpAny M A (getMethod (.ref a) "group" pl) Q E s :=
  getMethod_builtin hm.typeIs plainAttrs_Mat slot_Mat_group type_Mat_group hm.noDict h
theorem PatAt.noDict {p : Addr} {g : Nat} {C : Array Nat} (x : PatAt s.heap p g C) : ∀ b, Value.ref p = .ref b → ∃ o, s.heap.get? b = some o ∧ o.dict = none := by
  obtain ⟨o, vs, tp, ot, items, n, a1, a2, a3, _⟩ := x
  intro b e
  cases e
  exact ⟨o, a1, a3⟩
theorem gm_search {M : Model} {pl : Sem Bool} {Q : Value × List Value → Shared → Prop} {p : Addr} {g : Nat} {C : Array Nat} (hp : PatAt s.heap p g C) (h : Q (.builtin "re.Pattern.search", [.ref p]) s) : wpAny M A (getMethod (.ref p) "search" pl) Q E s :=
  getMethod_builtin hp.typeIs plainAttrs_Pat slot_Pat_search type_Pat_search hp.noDict h
theorem gm_fullmatch {M : Model} {pl : Sem Bool} {Q : Value × List Value → Shared → Prop} {p : Addr} {g : Nat} {C : Array Nat} (hp : PatAt s.heap p g C) (h : Q (.builtin "re.Pattern.fullmatch", [.ref p]) s) : wpAny M A (getMethod (.ref p) "fullmatch" pl) Q E s :=
  getMethod_builtin hp.typeIs plainAttrs_Pat slot_Pat_fullmatch type_Pat_fullmatch hp.noDict h
theorem gm_sub {M : Model} {pl : Sem Bool} {Q : Value × List Value → Shared → Prop} {p : Addr} {g : Nat} {C : Array Nat} (hp : PatAt s.heap p g C) (h : Q (.builtin "re.Pattern.sub", [.ref p]) s) : wpAny M A (getMethod (.ref p) "sub" pl) Q E s :=
  getMethod_builtin hp.typeIs plainAttrs_Pat slot_Pat_sub type_Pat_sub hp.noDict h
theorem gm_subn {M : Model} {pl : Sem Bool} {Q : Value × List Value → Shared → Prop} {p : Addr} {g : Nat} {C : Array Nat} (hp : PatAt s.heap p g C) (h : Q (.builtin "re.Pattern.subn", [.ref p]) s) : wpAny M A (getMethod (.ref p) "subn" pl) Q E s :=
  getMethod_builtin hp.typeIs plainAttrs_Pat slot_Pat_subn type_Pat_subn hp.noDict h

noncomputable abbrev tupOf (vs : List Value) : Obj := { cls := .type "tuple", data := .seq vs.toArray }
theorem span_K {b e c d : Nat} {u : Tok} {Q : Value → Shared → Prop} (F : Fr h₀ L s.heap m) (N : News h₀ L s.heap news) (hm : MatAt s.heap a T tk [(b : Int), e, c, d].toArray)
    (k : ∀ D h' t1 t2 t3, Fr h₀ L h' m → News h₀ L h' ((D, tupOf [.int b t1, .int e t2]) :: news) → (∀ p ∈ news, p.1 < D) → Q (.ref D) { s with heap := h', toks := t3 }) :
    wpAny (model prog w) A (call (.builtin "re.Match.span") [.ref a, .int 0 u]) Q E s :=
  call_span (i := 0) hm (by show 0 < 4; lia) rfl rfl (k _ _ _ _ _ (F.push _) (N.push F _) fun p hp => Heap.lt_size (N p hp).1)
theorem group_K {b e c d : Nat} {u : Tok} {Q : Value → Shared → Prop} (hm : MatAt s.heap a T tk [(b : Int), e, c, d].toArray) (hz : T.cps.size ≤ 100000)
    (k : ∀ t1 t2, Q (.str ⟨T.cps.extract c d⟩ t1) { s with toks := t2 }) :
    wpAny (model prog w) A (call (.builtin "re.Match.group") [.ref a, .int 1 u]) Q E s :=
  call_group (i := 1) hm (by show 2 < 4; lia) rfl rfl hz (k _ _)
theorem string_K {sp : Array Int} {expr : Bool} {Q : Value → Shared → Prop} (hm : MatAt s.heap a T tk sp) (hq : ∀ t, Q (.str T tk) { s with toks := t }) : wpAny (model prog w) A (getAttr (.ref a) "string" expr) Q E s :=
  string_of hm (hq _)
end
end Mine
namespace Mine
theorem slice_to {x : Str} {j : Nat} (h : j ≤ x.cps.size) : PySem.Txt.slice x none (some (j : Int)) = ⟨x.cps.extract 0 j⟩ := by
  have e := slice_closes_to (x := x) (j := j) ⟨by lia, by simpa using h⟩
  rw [eq_of_beq e]
  congr 1
  apply Array.ext'
  rw [Array.toList_extract]
  simp
theorem slice_from {x : Str} {i : Nat} (h : i ≤ x.cps.size) : PySem.Txt.slice x (some (i : Int)) none = ⟨x.cps.extract i x.cps.size⟩ := by
  rw [slice_from_eq (x := x) (i := i) (b := x.length) (by lia) (by show (i : Int) ≤ (x.cps.size : Nat); lia) rfl]
  congr 1
  apply Array.ext'
  rw [Array.toList_extract]
  have e : (((x.length : Nat) : Int) - (i : Int)).toNat = x.cps.size - i := by
    show (((x.cps.size : Nat) : Int) - (i : Int)).toNat = _
    lia
  rw [e]
  simp
end Mine
namespace Mine
section
variable {prog : Program} {w : World} {A : Around} {E : Value → Shared → Prop} {s : Shared} {x y : Str} {t u : Tok}
theorem add_K {Q : Value → Shared → Prop} (hsz : x.length + y.length ≤ sizeLine) (h : ∀ t' tk, Q (.str (x ++ y) t') { s with toks := tk }) : wpAny (model prog w) A (binaryOp .Add (.str x t) (.str y u)) Q E s := PyProof.Rows.add_str h hsz
theorem fit_slices (x y : Str) (a b c d : Option Int) (h : x.cps.size + y.cps.size ≤ 16777216) : (PySem.Txt.slice x a b).length + (PySem.Txt.slice y c d).length ≤ sizeLine :=
  Nat.le_trans (Nat.add_le_add (PySem.Txt.slice_le _ _ _) (PySem.Txt.slice_le _ _ _)) h
end
end Mine

end
section
open PySem PySem.W PyProof.Rows
set_option Elab.async false
set_option maxRecDepth 100000
set_option maxHeartbeats 8000000
namespace Mine
open_top hd for PySem.Challenge.rw_kl0472_01

end Mine

end
section
open PySem PySem.W PySem.Calls PyProof.Rows
set_option linter.unusedVariables false
set_option linter.unusedSimpArgs false
set_option maxRecDepth 100000
set_option maxHeartbeats 8000000
set_option pp.maxSteps 100000
namespace Mine
local macro_rules | `(tactic| k_mem) => `(tactic| first | with_reducible assumption | with_reducible exact List.mem_cons_self | (apply List.mem_cons_of_mem; k_mem))
local macro_rules | `(tactic| walk_at "mat_at") => `(tactic| first | assumption | ((with_reducible apply MatAt.ofNews); k_asm; k_mem; k_mem))
local macro_rules | `(tactic| walk_at "lt") => `(tactic| (intros; rename_i l1; (try k_lt l1); k_sweep))
local macro_rules | `(tactic| walk_at "getMethod ref") => `(tactic| (k_here; k_dflt ((with_reducible first | apply gm_span | apply gm_group); walk_at "mat_at")))
local macro_rules | `(tactic| walk_at "call builtin:re.Match.span") => `(tactic| (k_here; k_dflt ((with_reducible apply span_K); k_asm; k_asm; walk_at "mat_at"; walk_at "lt")))
local macro_rules | `(tactic| walk_at "getAttr ref") => `(tactic| (k_here; k_dflt ((with_reducible apply string_K); walk_at "mat_at"); intros))
local macro_rules | `(tactic| walk_at "binaryOp Add str str") => `(tactic| ((with_reducible apply add_K); apply fit_slices; omega; intros))
section
theorem calm_C1 : True := by
  w_top off
  trivial
theorem c_unmatched : ∀ (w : World) (dp un : Nat) (gd : Option (List Code)) (A₀ : Around) (base h₀ : Heap) (outer : List Env) (env : Env) (L : Addr) (m : Str → Option Value) (news : List (Addr × Obj)) (s : Shared) (p : Program) (loose : List Str) (mean : ExcName → Option Value) (mg mb : Str → Option Value),
    (hd.heap_39 w.params).In h₀ → Below A₀ base outer h₀ → Fr h₀ L s.heap m → News h₀ L s.heap news → Top p loose mean mg mb h₀ → env.frame = some L → env.scope.kind = .function → dp < recursionLimit →
    ∀ (R : Result → Shared → Prop) (ma pa tp : Addr) (T : Str) (tk : Tok) (po lim : Nat) (li : Int) (a b c d : Nat), (ma, matObj pa T tk po lim li tp) ∈ news → (tp, spanObj [a, b, c, d]) ∈ news → T.cps.size ≤ 100000 → a ≤ b → b ≤ T.cps.size →
    (∀ h' t' u, Fr h₀ L h' m → News h₀ L h' news → R (.ok (.ret (.str ⟨T.cps.extract 0 a ++ T.cps.extract b T.cps.size⟩ u))) { s with heap := h', toks := t' }) →
    codeAny (model PySem.Challenge.rw_kl0472_01.row.prog w) ⟨none, dp, some (env :: outer), gd, un⟩ (.call (.ref 43) ⟨[.ref ma], []⟩) R s := by
  k_fill
  intro w dp un gd A₀ base h₀ outer env L m news s p loose mean mg mb X B F N T hf hke hroom R ma pa tp T tk po lim li a b c d hm hs hz hab hb hk
  k_dflt (refine' code_def (K := hd.heap_39 w.params) ?k1 ?k2 ?k3 ?k4 ?k5 ?kA ?kF ?kK ?k6 ?k7 ?k8 ?k9 ?kB ?_ ?c2 ?c3 ?c4 ?c5; (case kA => exact rfl); (case kF => exact hf); (case kK => exact hke); (case k1 => k_asm); (case k2 => k_asm); (case k3 => k_asm); (case k4 => k_asm); (case k5 => k_asm); (case k6 => k_is); (case k7 => k_is); (case k8 => exact hroom); (case k9 => exact BindsTo.of_eq rfl); (case c5 => decide); (case kB => exact locs rfl); (case c2 => exact rfl); (case c3 => exact rfl); (case c4 => exact rfl); k_whole; intro g' L' h' FG' F' N' B' X' T'; (try dsimp only); (try k_fold))
  k_steps
  (with_reducible rename Fr h₀ _ _ _ => kF)
  (with_reducible rename News h₀ _ _ _ => kN)
  rw [slice_to (by lia), slice_from hb]
  exact hk _ _ _ kF fun p hp => kN p (.tail _ hp)

end
section
/-- all but some objects stay -/
noncomputable def But (X : List Addr) (h h' : Heap) : Prop := ∀ b o, b ∉ X → h.get? b = some o → h'.get? b = some o
theorem But.refl (X : List Addr) (h : Heap) : But X h h := fun _ _ _ e => e
theorem But.trans {X : List Addr} {h h' h'' : Heap} (a : But X h h') (b : But X h' h'') : But X h h'' := fun x o n e => b x o n (a x o n e)
theorem But.mono {X Y : List Addr} {h h' : Heap} (a : But X h h') (s : ∀ x ∈ X, x ∈ Y) : But Y h h' := fun x o n e => a x o (fun q => n (s x q)) e
theorem Stays.but {h h' : Heap} (a : Stays h h') (X : List Addr) : But X h h' := fun x o _ e => a x o e
theorem but_nil {h h' : Heap} (a : But [] h h') : Stays h h' := fun x o e => a x o (fun q => nomatch q) e

section
variable {h₀ h h' : Heap} {L : Addr} {m : Str → Option Value} {news : List (Addr × Obj)} {X : List Addr}
theorem but_fr (b : But X h h') (F : Fr h₀ L h m) (hx : ∀ x ∈ X, h₀.get? x = none ∧ x ≠ L) : Fr h₀ L h' m := by
  obtain ⟨oL, es, ep, hL, r⟩ := F.ns
  refine ⟨⟨oL, es, ep, b _ _ (fun q => (hx _ q).2 rfl) hL, r⟩, fun a o e => b a o (fun q => ?_) (F.keep a o e), F.above⟩
  have := (hx _ q).1
  rw [e] at this; cases this
theorem but_news (b : But X h h') (N : News h₀ L h news) (hx : ∀ p ∈ news, p.1 ∉ X) : News h₀ L h' news := fun p hp => ⟨b _ _ (hx p hp) (N p hp).1, (N p hp).2⟩
/-- a new object of the heap, in the ledger -/
theorem news_fresh {hs : Heap} (F : Fr h₀ L hs m) {a : Addr} {o : Obj} (e : h.get? a = some o) (hn : hs.get? a = none) (N : News h₀ L h news) : News h₀ L h ((a, o) :: news) := by
  intro p hp
  rcases List.mem_cons.mp hp with rfl | hp
  · refine ⟨e, fun q => ?_, ?_⟩
    · obtain ⟨oL, es, ep, hL, r⟩ := F.ns
      dsimp only at q
      rw [q, hL] at hn; cases hn
    · cases q : h₀.get? a with
      | none => rfl
      | some o' => rw [F.keep _ _ q] at hn; cases hn
  · exact N p hp
end

/-- what a call of the text's defs stands in -/
structure Amid (w : World) (env : Env) (outer : List Env) (h : Heap) : Prop where
  ex : ∃ (A₀ : Around) (base h₀ : Heap) (L : Addr) (m : Str → Option Value) (p : Program) (loose : List Str) (mean : ExcName → Option Value) (mg mb : Str → Option Value),
    Below A₀ base outer h₀ ∧ Fr h₀ L h m ∧ (hd.heap_39 w.params).In h₀ ∧ Top p loose mean mg mb h₀ ∧ env.frame = some L ∧ env.scope.kind = .function ∧ CodeHd h₀ 86 82 ∧ CodeHd h₀ 69 65 ∧ h₀.get? 65 = none ∧ h₀.get? 82 = none
theorem top_big {w : World} {h : Heap} (X : (hd.heap_39 w.params).In h) : 159 < h.objs.size := by
  have : ∃ o, (hd.heap_39 w.params).lookup 159 = some o := ⟨_, rfl⟩
  obtain ⟨o, e⟩ := this
  exact Heap.lt_size (X _ _ e)
theorem Amid.big {w : World} {env : Env} {outer : List Env} {h : Heap} (M : Amid w env outer h) : 159 < h.objs.size := by
  obtain ⟨A₀, base, h₀, L, m, p, loose, mean, mg, mb, B, F, X, _⟩ := M.ex
  have h1 := top_big X
  have h2 : @LE.le Nat _ h₀.objs.size L := F.above
  have h3 : @LT.lt Nat _ L h.objs.size := F.ns.lt
  lia
theorem Amid.but {w : World} {env : Env} {outer : List Env} {h h' : Heap} (M : Amid w env outer h) (b : But [65, 82] h h') : Amid w env outer h' := by
  obtain ⟨A₀, base, h₀, L, m, p, loose, mean, mg, mb, B, F, X, T, a1, a2, a3, a4, a5, a6⟩ := M.ex
  have h1 := top_big X
  have h2 : @LE.le Nat _ h₀.objs.size L := F.above
  have h65 : @Ne Nat 65 L := by lia
  have h82 : @Ne Nat 82 L := by lia
  refine ⟨A₀, base, h₀, L, m, p, loose, mean, mg, mb, B, but_fr b F ?_, X, T, a1, a2, a3, a4, a5, a6⟩
  intro x hx
  rcases List.mem_cons.mp hx with rfl | hx
  · exact ⟨a5, h65⟩
  · rcases List.mem_singleton.mp hx with rfl
    exact ⟨a6, h82⟩
theorem Amid.stays {w : World} {env : Env} {outer : List Env} {h h' : Heap} (M : Amid w env outer h) (b : Stays h h') : Amid w env outer h' := M.but (b.but _)

section
variable {prog : Program} {w : World} {A A₀ : Around} {E : Value → Shared → Prop} {s : Shared} {K : Frag} {L : Addr} {h₀ base : Heap} {m mg mb : Str → Option Value} {hs : List (Addr × Obj)} {p : Program} {loose : List Str} {mean : ExcName → Option Value}
/-- a call of a def: the callee's base is the heap as it is, but for some objects that the call may turn -/
theorem code_mine {env : Env} {outer : List Env} {R : Result → Shared → Prop} {name qual : Str} {params : Arguments} {body : List Stmt} {scope : Scope} {dV kV doc pm cdv ct oc : Value} {an od : Option Addr} {osl : Array (Option Value)} {f : Addr} {args : Args} {binds : List (Str × Value)}
    (B : Below A₀ base outer h₀) (F : Fr h₀ L s.heap m) (X₀ : K.In h₀) (N : News h₀ L s.heap hs) (T : Top p loose mean mg mb h₀) (hA : A.frames = some (env :: outer)) (hf : env.frame = some L) (hke : env.scope.kind = .function)
    (ho : K.lookup f = some ⟨oc, od, .func (fnOf name qual params body scope dV kV doc pm an cdv ct), osl⟩) (hcd : codeIn K cdv qual = true) (hroom : A.depth < recursionLimit)
    (hbind : BindsTo s (fnOf name qual params body scope dV kV doc pm an cdv ct) args binds) (hloc : ∀ y ∈ binds, scope.names.lookup y.1 = some .local)
    (h : ∀ g L' h₁, (∀ b o, b ∉ hs.map (·.1) → s.heap.get? b = some o → g.get? b = some o) → h₀.StaysIn g → Fr g L' h₁ (fun y => binds.reverse.lookup y) → News g L' h₁ hs → Below A base (env :: outer) g → K.In g → Top p loose mean mg mb g →
      wpAny (model prog w) (A.deeper (envOf qual scope L' f cdv)) (execs body (envOf qual scope L' f cdv))
        (fun fl s' => R (.ok (.ret (match fl with | .ret v => v | _ => .none))) s')
        (fun e s' => wpAny (model prog w) (A.deeper (envOf qual scope L' f cdv)) (leaving (envOf qual scope L' f cdv) e) (fun _ s'' => R (.error e) s'') (fun e' s'' => R (.error e') s'') s')
        { s with heap := h₁, toks := s.toks + binds.length })
    (hco : scope.isCoroutine = false) (hgen : scope.isGenerator = false) (hk : scope.kind = .function)
    (hcell : ∀ x ∈ scope.names, x.2 ≠ .cell) : codeAny (model prog w) A (.call (.ref f) args) R s := by
  obtain ⟨FG, BG, st, lv⟩ := groundX (R := R) B F N hA hf hke
  refine codeAny_call_def (fd := fnOf name qual params body scope dV kV doc pm an cdv ct) (body := body) (binds := binds) hroom (X₀.keeps F.keep _ _ ho) rfl (T.nolimit.keeps F.keep) (codeRec_of (X₀.keeps F.keep) hcd) rfl hbind hcell hloc (fun h₁ hns hk₁ => ?_) hco hgen hk
  exact h _ s.heap.objs.size h₁ (fun b o n e => hideAll_get _ e n) st ⟨hns, fun b o e => hk₁ b o (of_hideAll _ e), Nat.le_of_eq (hideAll_size _ _)⟩
    (fun p hp => ⟨hk₁ _ _ (N p hp).1, Nat.ne_of_lt (Heap.lt_size (N p hp).1), hideAll_none _ (List.mem_map_of_mem hp)⟩) BG (X₀.keeps st) (T.keeps st)
/-- a call of a lambda, whose base is the heap as it is -/
theorem lam_mine {env : Env} {outer : List Env} {R : Result → Shared → Prop} {name qual : Str} {params : Arguments} {body : PySem.Expr} {scope : Scope} {pm ctv : Value} {c' : Addr} {f : Addr} {args : Args} {binds : List (Str × Value)}
    (B : Below A₀ base outer h₀) (F : Fr h₀ L s.heap m) (X₀ : K.In h₀) (T : Top p loose mean mg mb h₀) (hA : A.frames = some (env :: outer)) (hf : env.frame = some L) (hke : env.scope.kind = .function)
    (ho : s.heap.get? f = some (kla_obj name qual params body scope [] pm c' ctv)) (hcd : s.heap.CodeRec (.ref c') qual) (hroom : A.depth < recursionLimit)
    (hbind : bindArgs (kla_fn name qual params body scope [] pm (.ref c') ctv) args = pure binds) (hloc : ∀ y ∈ binds, scope.names.lookup y.1 = some .local)
    (h : ∀ L' h₁, Fr s.heap L' h₁ (fun y => binds.reverse.lookup y) → News s.heap L' h₁ [] → Below A base (env :: outer) s.heap → K.In s.heap → Top p loose mean mg mb s.heap →
      wpAny (model prog w) (A.deeper (envX qual scope L' f (.ref c') [])) (eval body (envX qual scope L' f (.ref c') []))
        (fun v s' => R (.ok (.ret v)) s')
        (fun e s' => wpAny (model prog w) (A.deeper (envX qual scope L' f (.ref c') [])) (leaving (envX qual scope L' f (.ref c') []) e) (fun _ s'' => R (.error e) s'') (fun e' s'' => R (.error e') s'') s')
        { s with heap := h₁, toks := s.toks + binds.length })
    (hco : scope.isCoroutine = false) (hgen : scope.isGenerator = false) (hk : scope.kind = .function)
    (hcell : ∀ x ∈ scope.names, x.2 ≠ .cell) : codeAny (model prog w) A (.call (.ref f) args) R s := by
  obtain ⟨FG, BG, st, lv⟩ := groundX (R := R) B F News.nil hA hf hke
  refine kla_callFunE hroom ho rfl hco hgen rfl hcd ?_
  rw [hbind]
  refine wpAny_pure (wpAny_newFunctionEnv hcell hloc (fun h₁ hns hsb => ⟨((T.nolimit).keeps F.keep).fresh _ hsb, ?_⟩) hk)
  show codeAny _ _ (.expr body (envX qual scope s.heap.objs.size f (.ref c') [])) _ _
  have hk₁ : ∀ b o, s.heap.get? b = some o → h₁.get? b = some o := fun b o e => hsb.extBut b o (Nat.ne_of_lt (Heap.lt_size e)) (Heap.get?_push_of_some _ e)
  exact kla_codeExpr (h s.heap.objs.size h₁ ⟨hns, hk₁, Nat.le_refl _⟩ News.nil BG (X₀.keeps st) (T.keeps st))
end

end
section
theorem calm_C3 : True := by
  w_top off
  trivial
local macro_rules | `(tactic| walk_at "call builtin:re.Match.group") => `(tactic| (k_here; k_dflt ((with_reducible apply group_K); walk_at "mat_at"; assumption); intros))

theorem str_two (x : Str) (y : Array Nat) : x ++ (⟨y⟩ : Str) = ⟨(x.cps.toList ++ y.toList).toArray⟩ := by
  refine Str.ext' ?_
  rw [Str.cps_append]
  simp
theorem str_two0 (x : Str) (y : Array Nat) (h : ((⟨y⟩ : Str).length : Int) = 0) : x ++ Str.ofString "" = ⟨(x.cps.toList ++ y.toList).toArray⟩ := by
  have e : y = #[] := by
    have : y.size = 0 := by have h' : ((y.size : Nat) : Int) = 0 := h; omega
    exact Array.eq_empty_of_size_eq_zero this
  subst e
  refine Str.ext' ?_
  rw [Str.cps_append]
  show x.cps ++ #[] = _
  simp

noncomputable abbrev lamArgsS : Arguments := { posonlyargs := [], args := [{ arg := "_m", annotation := none, pos := ⟨26, 56, 26, 58⟩ }], vararg := none, kwonlyargs := [], kw_defaults := [], kwarg := none, defaults := [] }
noncomputable abbrev lamBodyS : PySem.Expr :=
  .BinOp (.Constant (.str (Str.ofString "")) 0 ⟨26, 60, 26, 62⟩) .Add (.BoolOp .Or [.Call (.Attribute (.Name (Str.ofString "_m") ⟨26, 66, 26, 68⟩) (Str.ofString "group") ⟨26, 66, 26, 74⟩) [.Constant (.int 1) 0 ⟨26, 75, 26, 76⟩] [] ⟨26, 66, 26, 77⟩, .Constant (.str (Str.ofString "")) 0 ⟨26, 81, 26, 83⟩] ⟨26, 66, 26, 83⟩) ⟨26, 60, 26, 84⟩
noncomputable abbrev lamScopeS : Scope := { kind := .function, names := [(Str.ofString "_m", .local)], isGenerator := false, isCoroutine := false }
theorem cb_lamS : ∀ (w : World) (dp un : Nat) (gd : Option (List Code)) (A₀ : Around) (base h₀ : Heap) (outer : List Env) (env : Env) (L : Addr) (m : Str → Option Value) (s : Shared) (p : Program) (loose : List Str) (mean : ExcName → Option Value) (mg mb : Str → Option Value),
    (hd.heap_39 w.params).In h₀ → Below A₀ base outer h₀ → Fr h₀ L s.heap m → Top p loose mean mg mb h₀ → env.frame = some L → env.scope.kind = .function → dp < recursionLimit →
    ∀ (f c' : Addr) (oc : Obj) (vs : Array Value) (qual : Str) (pm ctv : Value) (tq : Tok) (T : Str) (tk : Tok), s.heap.get? f = some (kla_obj "<lambda>" qual lamArgsS lamBodyS lamScopeS [] pm c' ctv) → s.heap.get? c' = some oc → oc.data = .fields vs → vs[1]? = some (.str qual tq) →
    T.cps.size ≤ 100000 →
    Callback PySem.Challenge.rw_kl0472_01.row.prog w ⟨none, dp, some (env :: outer), gd, un⟩ s (.ref f) T tk (Str.ofString "").cps.toList := by
  k_fill
  intro w dp un gd A₀ base h₀ outer env L m s p loose mean mg mb X B F T0 hf hke hroom f c' oc vs qual pm ctv tq T tk hfm hcm hdat hvs hz
  intro h t a x y c d Q E hst hmat hcd hdle k
  have F₂ : Fr h₀ L h m := but_fr (hst.but []) F (fun _ q => nomatch q)
  have hcr : h.CodeRec (.ref c') qual := ⟨c', oc, vs, tq, rfl, hst _ _ hcm, hdat, hvs⟩
  have hfm' := hst _ _ hfm
  have hlen : (⟨T.cps.extract c d⟩ : Str).length ≤ 100000 := by show (T.cps.extract c d).size ≤ _; rw [Array.size_extract]; omega
  clear F hst hfm hcm
  refine wpAny_call ?_
  k_dflt (refine' lam_mine (K := hd.heap_39 w.params) (h₀ := h₀) (L := L) (m := m) ?k1 ?k2 ?k3 ?k5 ?kA ?kF ?kK ?k6 ?k7 ?k8 ?k9 ?kB ?_ ?c2 ?c3 ?c4 ?c5; (case kA => exact rfl); (case kF => exact hf); (case kK => exact hke); (case k1 => assumption); (case k2 => assumption); (case k3 => assumption); (case k5 => assumption); (case k6 => exact hfm'); (case k7 => exact hcr); (case k8 => exact hroom); (case k9 => exact rfl); (case c5 => decide); (case kB => exact locs rfl); (case c2 => exact rfl); (case c3 => exact rfl); (case c4 => exact rfl); intro L' h' F' N' B' X' T'; (try dsimp only); (try k_fold))
  have hmb := hmat.mono F'.keep
  k_steps
  · rename_i hne t1 k1 _
    rw [show (Str.ofString "" ++ ⟨T.cps.extract c d⟩ : Str) = ⟨((Str.ofString "").cps.toList ++ (T.cps.extract c d).toList).toArray⟩ from str_two _ _]
    exact k _ _ _ F'.keep
  · rename_i hne t1 k1 _
    rw [show (Str.ofString "" ++ Str.ofString "" : Str) = ⟨((Str.ofString "").cps.toList ++ (T.cps.extract c d).toList).toArray⟩ from str_two0 _ _ hne]
    exact k _ _ _ F'.keep

noncomputable abbrev lamArgsJ : Arguments := { posonlyargs := [], args := [{ arg := "_m", annotation := none, pos := ⟨57, 57, 57, 59⟩ }], vararg := none, kwonlyargs := [], kw_defaults := [], kwarg := none, defaults := [] }
noncomputable abbrev lamBodyJ : PySem.Expr :=
  .BinOp (.Constant (.str (Str.ofString "\\")) 0 ⟨57, 61, 57, 65⟩) .Add (.BoolOp .Or [.Call (.Attribute (.Name (Str.ofString "_m") ⟨57, 69, 57, 71⟩) (Str.ofString "group") ⟨57, 69, 57, 77⟩) [.Constant (.int 1) 0 ⟨57, 78, 57, 79⟩] [] ⟨57, 69, 57, 80⟩, .Constant (.str (Str.ofString "")) 0 ⟨57, 84, 57, 86⟩] ⟨57, 69, 57, 86⟩) ⟨57, 61, 57, 87⟩
noncomputable abbrev lamScopeJ : Scope := { kind := .function, names := [(Str.ofString "_m", .local)], isGenerator := false, isCoroutine := false }
theorem cb_lamJ : ∀ (w : World) (dp un : Nat) (gd : Option (List Code)) (A₀ : Around) (base h₀ : Heap) (outer : List Env) (env : Env) (L : Addr) (m : Str → Option Value) (s : Shared) (p : Program) (loose : List Str) (mean : ExcName → Option Value) (mg mb : Str → Option Value),
    (hd.heap_39 w.params).In h₀ → Below A₀ base outer h₀ → Fr h₀ L s.heap m → Top p loose mean mg mb h₀ → env.frame = some L → env.scope.kind = .function → dp < recursionLimit →
    ∀ (f c' : Addr) (oc : Obj) (vs : Array Value) (qual : Str) (pm ctv : Value) (tq : Tok) (T : Str) (tk : Tok), s.heap.get? f = some (kla_obj "<lambda>" qual lamArgsJ lamBodyJ lamScopeJ [] pm c' ctv) → s.heap.get? c' = some oc → oc.data = .fields vs → vs[1]? = some (.str qual tq) →
    T.cps.size ≤ 100000 →
    Callback PySem.Challenge.rw_kl0472_01.row.prog w ⟨none, dp, some (env :: outer), gd, un⟩ s (.ref f) T tk (Str.ofString "\\").cps.toList := by
  k_fill
  intro w dp un gd A₀ base h₀ outer env L m s p loose mean mg mb X B F T0 hf hke hroom f c' oc vs qual pm ctv tq T tk hfm hcm hdat hvs hz
  intro h t a x y c d Q E hst hmat hcd hdle k
  have F₂ : Fr h₀ L h m := but_fr (hst.but []) F (fun _ q => nomatch q)
  have hcr : h.CodeRec (.ref c') qual := ⟨c', oc, vs, tq, rfl, hst _ _ hcm, hdat, hvs⟩
  have hfm' := hst _ _ hfm
  have hlen : (⟨T.cps.extract c d⟩ : Str).length ≤ 100000 := by show (T.cps.extract c d).size ≤ _; rw [Array.size_extract]; omega
  clear F hst hfm hcm
  refine wpAny_call ?_
  k_dflt (refine' lam_mine (K := hd.heap_39 w.params) (h₀ := h₀) (L := L) (m := m) ?k1 ?k2 ?k3 ?k5 ?kA ?kF ?kK ?k6 ?k7 ?k8 ?k9 ?kB ?_ ?c2 ?c3 ?c4 ?c5; (case kA => exact rfl); (case kF => exact hf); (case kK => exact hke); (case k1 => assumption); (case k2 => assumption); (case k3 => assumption); (case k5 => assumption); (case k6 => exact hfm'); (case k7 => exact hcr); (case k8 => exact hroom); (case k9 => exact rfl); (case c5 => decide); (case kB => exact locs rfl); (case c2 => exact rfl); (case c3 => exact rfl); (case c4 => exact rfl); intro L' h' F' N' B' X' T'; (try dsimp only); (try k_fold))
  have hmb := hmat.mono F'.keep
  k_steps
  · rename_i hne t1 k1 _
    rw [show (Str.ofString "\\" ++ ⟨T.cps.extract c d⟩ : Str) = ⟨((Str.ofString "\\").cps.toList ++ (T.cps.extract c d).toList).toArray⟩ from str_two _ _]
    exact k _ _ _ F'.keep
  · rename_i hne t1 k1 _
    rw [show (Str.ofString "\\" ++ Str.ofString "" : Str) = ⟨((Str.ofString "\\").cps.toList ++ (T.cps.extract c d).toList).toArray⟩ from str_two0 _ _ hne]
    exact k _ _ _ F'.keep

end
section
/-! the rules that split_header_words and join_header_words stand on -/
open PySem.Builtin.Re in
theorem patAt_of {P : Params} {h : Heap} {p tup : Addr} {g : Nat} {C : Array Nat} {vs : Array Value} {items : Array Value} {n : Nat} (X : (hd.heap_39 P).In h)
    (e1 : (hd.heap_39 P).lookup p = some { cls := .type "re.Pattern", data := .fields vs }) (e2 : reRawNat (vs.getD 6 .none) = 0) (e3 : vs.getD 5 .none = .ref tup) (e4 : reRawNat (vs.getD 2 .none) = g)
    (e5 : (hd.heap_39 P).lookup tup = some { cls := .type "tuple", data := .seq items n }) (e6 : (items.map reRawOf).map (·.toNat) = C) : PatAt h p g C :=
  ⟨⟨_, vs, tup, _, items, n, X _ _ e1, rfl, rfl, rfl, e2, e3, e4, X _ _ e5, rfl, e6⟩⟩
section
variable {P : Params} {h : Heap}
theorem pat_T (X : (hd.heap_39 P).In h) : PatAt h 48 1 CT := patAt_of X rfl rfl rfl rfl rfl (by kernel_rfl)
theorem pat_Q (X : (hd.heap_39 P).In h) : PatAt h 53 1 CQ := patAt_of X rfl rfl rfl rfl rfl (by kernel_rfl)
theorem pat_V (X : (hd.heap_39 P).In h) : PatAt h 58 1 CV := patAt_of X rfl rfl rfl rfl rfl (by kernel_rfl)
theorem pat_E (X : (hd.heap_39 P).In h) : PatAt h 63 1 CE := patAt_of X rfl rfl rfl rfl rfl (by kernel_rfl)
theorem pat_W (X : (hd.heap_39 P).In h) : PatAt h 36 0 CW := patAt_of X rfl rfl rfl rfl rfl (by kernel_rfl)
theorem pat_JT (X : (hd.heap_39 P).In h) : PatAt h 75 0 CJT := patAt_of X rfl rfl rfl rfl rfl (by kernel_rfl)
theorem pat_JE (X : (hd.heap_39 P).In h) : PatAt h 80 1 CJE := patAt_of X rfl rfl rfl rfl rfl (by kernel_rfl)
end

/-- what a search finds, and that it finds nothing -/
noncomputable def Finds (C : Array Nat) (T : Array Nat) (b c d : Nat) : Prop := c ≤ d ∧ d ≤ b ∧ b ≤ T.size ∧ ∃ N, N ≤ 2 ^ 60 ∧ Ends N (Sre.forSearch C T 1 0 T.size false) (fun m => Won m 0 b 1 1 #[some c, some d])
noncomputable def Misses (C : Array Nat) (T : Array Nat) : Prop := ∃ N, N ≤ 2 ^ 60 ∧ Ends N (Sre.forSearch C T 1 0 T.size false) Lost
noncomputable def FullOk (T : Array Nat) : Prop := ∃ N, N ≤ 2 ^ 60 ∧ Ends N (Sre.forMatch CJT T 0 0 T.size true false) (fun m => Won m 0 T.size (-1) (-1) #[])
noncomputable def FullNo (T : Array Nat) : Prop := ∃ N, N ≤ 2 ^ 60 ∧ Ends N (Sre.forMatch CJT T 0 0 T.size true false) Lost

theorem fr_lt {h₀ h : Heap} {L : Addr} {m : Str → Option Value} (F : Fr h₀ L h m) : @LT.lt Nat _ L h.objs.size := F.ns.lt
/-- two new objects, in the ledger -/
theorem news_two {h₀ h : Heap} {L : Addr} {m : Str → Option Value} {news : List (Addr × Obj)} (F : Fr h₀ L h m) (N : News h₀ L h news) (o1 o2 : Obj) (f1 : o1.isFreed = false) (f2 : o2.isFreed = false) :
    Fr h₀ L ((h.push o1).push o2) m ∧ News h₀ L ((h.push o1).push o2) ((h.objs.size + 1, o2) :: (h.objs.size, o1) :: news) ∧ (∀ p ∈ news, p.1 < h.objs.size) := by
  have hL := fr_lt F
  have hA : @LE.le Nat _ h₀.objs.size L := F.above
  refine ⟨(F.push _).push _, fun p hp => ?_, fun p hp => Heap.lt_size (N p hp).1⟩
  rcases List.mem_cons.mp hp with rfl | hp
  · refine ⟨by rw [show h.objs.size + 1 = (h.push o1).objs.size from (Heap.size_push _ _).symm]; exact Heap.get?_push_size _ f2, ?_, ?_⟩
    · have : @Ne Nat (h.objs.size + 1) L := by lia
      exact this
    · exact Heap.get?_none_of_le (by have : @LE.le Nat _ h₀.objs.size (h.objs.size + 1) := by lia
                                     exact this)
  · rcases List.mem_cons.mp hp with rfl | hp
    · refine ⟨Heap.get?_push_of_some _ (Heap.get?_push_size _ f1), ?_, ?_⟩
      · have : @Ne Nat h.objs.size L := by lia
        exact this
      · exact Heap.get?_none_of_le (by have : @LE.le Nat _ h₀.objs.size h.objs.size := by lia
                                       exact this)
    · exact ⟨Heap.get?_push_of_some _ (Heap.get?_push_of_some _ (N p hp).1), (N p hp).2⟩
section
variable {prog : Program} {w : World} {A : Around} {E : Value → Shared → Prop} {s : Shared} {h₀ : Heap} {L : Addr} {m : Str → Option Value} {news : List (Addr × Obj)} {p : Addr} {T : Str} {tk : Tok} {C : Array Nat}
theorem search_K {b c d : Nat} {Q : Value → Shared → Prop} (F : Fr h₀ L s.heap m) (N : News h₀ L s.heap news) (hp : PatAt h₀ p 1 C) (hz : T.cps.size ≤ 100000) (f : Finds C T.cps b c d)
    (k : ∀ ma tp h', Fr h₀ L h' m → News h₀ L h' ((ma, matObj p T tk 0 T.cps.size 1 tp) :: (tp, spanObj [((0 : Nat) : Int), b, c, d]) :: news) → (∀ q ∈ news, q.1 < tp) → tp < ma → Q (.ref ma) { s with heap := h' }) :
    wpAny (model prog w) A (call (.builtin "re.Pattern.search") [.ref p, .str T tk]) Q E s := by
  obtain ⟨h1, h2, h3, n, hn, e⟩ := f
  obtain ⟨F', N', l⟩ := news_two F N (spanObj [((0 : Nat) : Int), b, c, d]) (matObj p T tk 0 T.cps.size 1 s.heap.objs.size) rfl rfl
  exact search_won (hp.mono F.keep) hz e hn h1 (k _ _ _ F' N' l (Nat.lt_succ_self _))
theorem nosearch_K {Q : Value → Shared → Prop} (F : Fr h₀ L s.heap m) (hp : PatAt h₀ p 1 C) (hz : T.cps.size ≤ 100000) (f : Misses C T.cps) (k : Q .none s) :
    wpAny (model prog w) A (call (.builtin "re.Pattern.search") [.ref p, .str T tk]) Q E s := by
  obtain ⟨n, hn, e⟩ := f
  exact search_lost (hp.mono F.keep) hz e hn k
theorem full_K {Q : Value → Shared → Prop} (F : Fr h₀ L s.heap m) (N : News h₀ L s.heap news) (hp : PatAt h₀ p 0 CJT) (hz : T.cps.size ≤ 100000) (f : FullOk T.cps)
    (k : ∀ ma tp h', Fr h₀ L h' m → News h₀ L h' ((ma, matObj p T tk 0 T.cps.size (-1) tp) :: (tp, spanObj [((0 : Nat) : Int), (T.cps.size : Int)]) :: news) → (∀ q ∈ news, q.1 < tp) → tp < ma → Q (.ref ma) { s with heap := h' }) :
    wpAny (model prog w) A (call (.builtin "re.Pattern.fullmatch") [.ref p, .str T tk]) Q E s := by
  obtain ⟨n, hn, e⟩ := f
  obtain ⟨F', N', l⟩ := news_two F N (spanObj [((0 : Nat) : Int), (T.cps.size : Int)]) (matObj p T tk 0 T.cps.size (-1) s.heap.objs.size) rfl rfl
  exact full_won (hp.mono F.keep) hz e hn (k _ _ _ F' N' l (Nat.lt_succ_self _))
theorem nofull_K {Q : Value → Shared → Prop} (F : Fr h₀ L s.heap m) (hp : PatAt h₀ p 0 CJT) (hz : T.cps.size ≤ 100000) (f : FullNo T.cps) (k : Q .none s) :
    wpAny (model prog w) A (call (.builtin "re.Pattern.fullmatch") [.ref p, .str T tk]) Q E s := by
  obtain ⟨n, hn, e⟩ := f
  exact full_lost (hp.mono F.keep) hz e hn k
theorem noBool_Mat : typeLookup (.type "re.Match") "__bool__" = pure none := by rw [typeLookup_type, builtinLookup_eq_fast]; kernel_rfl
theorem noLen_Mat : typeLookup (.type "re.Match") "__len__" = pure none := by rw [typeLookup_type, builtinLookup_eq_fast]; kernel_rfl
theorem truthy_match {M : Model} {a : Addr} {sp : Array Int} {Q : Bool → Shared → Prop} (hm : MatAt s.heap a T tk sp) (h : Q true s) : wpAny M A (truthy (.ref a)) Q E s := by
  unfold truthy
  refine wpAny_bind (m := callSpecial? (.ref a) (Str.ofString "__bool__")) (wpAny_callSpecial?_none (name := Str.ofString "__bool__") hm.typeIs noBool_Mat ?_)
  exact wpAny_bind (wpAny_specialOf (name := Str.ofString "__len__") hm.typeIs noLen_Mat (wpAny_pure h))
theorem truthy_its {a : Addr} {its : Array Value} {n : Nat} {Q : Bool → Shared → Prop} (N : News h₀ L s.heap news) (h : (a, listOf its n) ∈ news) (hz : its.size ≤ 1000000) (k : ∀ t, Q (!its.isEmpty) { s with toks := t }) :
    wpAny (model prog w) A (truthy (.ref a)) Q E s := wpAny_truthy_list ⟨_, (N _ h).1, rfl, _, rfl⟩ (by lia) (k _)
theorem subn_K {t1 : Tok} {n : Nat} {y : Str} {Q : Value → Shared → Prop} (F : Fr h₀ L s.heap m) (N : News h₀ L s.heap news) (hp : PatAt h₀ p 0 CW) (hz : T.cps.size ≤ 100000) (hn : 0 < n) (hle : n ≤ T.cps.size) (hj : ∀ q, q < n → junk (T.cps.getD q 0) = true) (he : n = T.cps.size ∨ junk (T.cps.getD n 0) = false)
    (hy : ⟨T.cps.extract n T.cps.size⟩ = y)
    (k : ∀ D h' t u u', Fr h₀ L h' m → News h₀ L h' ((D, tupOf [.str y u, .int 1 u']) :: news) → (∀ q ∈ news, q.1 < D) → Q (.ref D) { s with heap := h', toks := t }) :
    wpAny (model prog w) A (call (.builtin "re.Pattern.subn") [.ref p, .str (Str.ofString "") t1, .str T tk]) Q E s := by
  subst hy
  refine call_subn hz (hp.mono F.keep) hn hle hj he fun h t u u' st st' hs => ?_
  have hL := fr_lt F
  have hA : @LE.le Nat _ h₀.objs.size L := F.above
  have hs' : @LE.le Nat _ s.heap.objs.size h.objs.size := hs
  refine k _ _ t u u' ⟨F.ns.keeps st', fun b o e => st' b o (F.keep b o e), F.above⟩ (fun q hq => ?_) (fun q hq => ?_)
  · rcases List.mem_cons.mp hq with rfl | hq
    · refine ⟨Heap.get?_push_size _ rfl, ?_, ?_⟩
      · have : @Ne Nat h.objs.size L := by lia
        exact this
      · exact Heap.get?_none_of_le (by have : @LE.le Nat _ h₀.objs.size h.objs.size := by lia
                                       exact this)
    · exact ⟨st' _ _ (N q hq).1, (N q hq).2⟩
  · have h1 : @LT.lt Nat _ q.1 s.heap.objs.size := Heap.lt_size (N q hq).1
    have : @LT.lt Nat _ q.1 h.objs.size := by lia
    exact this
end

end
section
inductive All2 {α β : Type} (R : α → β → Prop) : List α → List β → Prop
  | nil : All2 R [] []
  | cons {a : α} {b : β} {l : List α} {k : List β} : R a b → All2 R l k → All2 R (a :: l) (b :: k)
noncomputable abbrev Wd := Str × Option Str
/-- one word that is read: the name, the value, the text that is left -/
inductive Word : Str → Str → Option Str → Str → Prop
  | quo {x name x1 raw y : Str} {b c d b2 c2 d2 : Nat} {out : List Str} : Finds CT x.cps b c d → ⟨x.cps.extract c d⟩ = name → ⟨x.cps.extract b x.cps.size⟩ = x1 → x1.cps.size ≤ 100000 →
      Finds CQ x1.cps b2 c2 d2 → ⟨x1.cps.extract c2 d2⟩ = raw → ⟨x1.cps.extract b2 x1.cps.size⟩ = y → raw.cps.size ≤ 100000 → SubRun CE raw.cps [] 0 out → weight out ≤ 1000000 → out.length ≤ 100000 → Word x name (some (PySem.Txt.join ⟨#[]⟩ out)) y
  | bare {x name x1 raw y : Str} {b c d b2 c2 d2 : Nat} : Finds CT x.cps b c d → ⟨x.cps.extract c d⟩ = name → ⟨x.cps.extract b x.cps.size⟩ = x1 → x1.cps.size ≤ 100000 →
      Misses CQ x1.cps → Finds CV x1.cps b2 c2 d2 → ⟨x1.cps.extract c2 d2⟩ = raw → ⟨x1.cps.extract b2 x1.cps.size⟩ = y → raw.cps.size ≤ 100000 → PySem.Txt.rstrip raw = raw → Word x name (some raw) y
  | alone {x name y : Str} {b c d : Nat} : Finds CT x.cps b c d → ⟨x.cps.extract c d⟩ = name → ⟨x.cps.extract b x.cps.size⟩ = y → y.cps.size ≤ 100000 → Misses CQ y.cps → Misses CV y.cps → Word x name none y
noncomputable def shut (ws : List Wd) (gs : List (List Wd)) : List (List Wd) := if ws.isEmpty then gs else gs ++ [ws]
/-- the run of the reader's loop -/
inductive Run : Str → List Wd → List (List Wd) → List (List Wd) → Prop
  | done {x : Str} {ws : List Wd} {gs : List (List Wd)} : x.cps.size = 0 → Run x ws gs (shut ws gs)
  | word {x name y : Str} {val : Option Str} {ws : List Wd} {gs fin : List (List Wd)} : 0 < x.cps.size → x.cps.size ≤ 100000 → Word x name val y → y.cps.size < x.cps.size → Run y (ws ++ [(name, val)]) gs fin → Run x ws gs fin
  | comma {x x1 y : Str} {ws : List Wd} {gs fin : List (List Wd)} : 0 < x.cps.size → x.cps.size ≤ 100000 → Misses CT x.cps → PySem.Txt.lstrip x = x1 → PySem.Txt.startswith x1 (Str.ofString ",") = true → x1.cps.size ≤ 100000 →
      PySem.Txt.slice x1 (some 1) none = y → y.cps.size < x.cps.size → Run y [] (shut ws gs) fin → Run x ws gs fin
  | junk {x x1 y : Str} {n : Nat} {ws : List Wd} {gs fin : List (List Wd)} : 0 < x.cps.size → x.cps.size ≤ 100000 → Misses CT x.cps → PySem.Txt.lstrip x = x1 → PySem.Txt.startswith x1 (Str.ofString ",") = false →
      0 < n → n ≤ x.cps.size → (∀ q, q < n → junk (x.cps.getD q 0) = true) → (n = x.cps.size ∨ junk (x.cps.getD n 0) = false) → ⟨x.cps.extract n x.cps.size⟩ = y → y.cps.size < x.cps.size → Run y ws gs fin → Run x ws gs fin

noncomputable def ValIs : Option Str → Value → Prop
  | none, v => v = .none
  | some y, v => ∃ t', v = .str y t'
/-- a word, and a list of words, in a ledger -/
noncomputable def ItemN (news : List (Addr × Obj)) (v : Value) (w : Wd) : Prop := ∃ (a : Addr) (t : Tok) (v2 : Value), v = .ref a ∧ (a, tupOf [.str w.1 t, v2]) ∈ news ∧ ValIs w.2 v2
noncomputable def RowN (news : List (Addr × Obj)) (v : Value) (ws : List Wd) : Prop := ∃ (a : Addr) (its : Array Value) (n : Nat), v = .ref a ∧ (a, listOf its n) ∈ news ∧ All2 (ItemN news) its.toList ws
theorem ItemN.mono {n n' : List (Addr × Obj)} (s : ∀ p ∈ n, p ∈ n') {v : Value} {w : Wd} (x : ItemN n v w) : ItemN n' v w := by
  obtain ⟨a, t, v2, e, h, r⟩ := x
  exact ⟨a, t, v2, e, s _ h, r⟩
theorem forall2_mono {α β : Type} {R S : α → β → Prop} (h : ∀ a b, R a b → S a b) : ∀ {l : List α} {k : List β}, All2 R l k → All2 S l k
  | _, _, .nil => .nil
  | _, _, .cons x r => .cons (h _ _ x) (forall2_mono h r)
theorem forall2_snoc {α β : Type} {R : α → β → Prop} {a : α} {b : β} (x : R a b) : ∀ {l : List α} {k : List β}, All2 R l k → All2 R (l ++ [a]) (k ++ [b])
  | _, _, .nil => .cons x .nil
  | _, _, .cons y r => .cons y (forall2_snoc x r)
theorem RowN.mono {n n' : List (Addr × Obj)} (s : ∀ p ∈ n, p ∈ n') {v : Value} {w : List Wd} (x : RowN n v w) : RowN n' v w := by
  obtain ⟨a, its, k, e, h, r⟩ := x
  exact ⟨a, its, k, e, s _ h, forall2_mono (fun _ _ => ItemN.mono s) r⟩
/-- the same on the heap -/
noncomputable def ItemH (h : Heap) (v : Value) (w : Wd) : Prop := ∃ (a : Addr) (t : Tok) (v2 : Value), v = .ref a ∧ 82 < a ∧ h.get? a = some (tupOf [.str w.1 t, v2]) ∧ ValIs w.2 v2
noncomputable def RowH (h : Heap) (v : Value) (ws : List Wd) : Prop := ∃ (a : Addr) (its : Array Value) (n : Nat), v = .ref a ∧ 82 < a ∧ h.get? a = some (listOf its n) ∧ All2 (ItemH h) its.toList ws
noncomputable def RowsH (h : Heap) (v : Value) (gs : List (List Wd)) : Prop := ∃ (a : Addr) (its : Array Value) (n : Nat), v = .ref a ∧ 82 < a ∧ h.get? a = some (listOf its n) ∧ All2 (RowH h) its.toList gs
/-- the two const tables: empty, or with the code of the one lambda -/
noncomputable def TabH (h : Heap) (line col : Nat) (qual : Str) (tb : Array Value) : Prop := tb = #[] ∨ ∃ (c' : Addr) (oc : Obj) (vs : Array Value) (t : Tok), tb = #[rawInt line, rawInt col, .ref c'] ∧ 82 < c' ∧ h.get? c' = some oc ∧ oc.data = .fields vs ∧ vs[1]? = some (.str qual t)
noncomputable abbrev qualS : Str := (Str.ofString "split_header_words").append (Str.ofString ".<locals>.") ++ Str.ofString "<lambda>"
/-- the end of a turn -/
noncomputable def TurnEnd (h₀ : Heap) (L I : Addr) (io : Obj) (J : (Str → Option Value) → List (Addr × Obj) → Prop) (s : Shared) (Q : Flow → Shared → Prop) (f : Flow) (s₂ : Shared) : Prop :=
  match f with
  | .ret v => Q (.ret v) s₂
  | .brk => Q .next s₂
  | _ => ∃ h' tk' m' nx, s₂ = { s with heap := h', toks := tk' } ∧ Fr h₀ L h' m' ∧ News h₀ L h' ((I, io) :: nx) ∧ (∀ p ∈ nx, p.1 ≠ I) ∧ J m' nx
open PySem.Spec in
/-- a for loop over a list of one thing, that the base holds -/
theorem iter_one {prog : Program} {w : World} {A : Around} {E : Value → Shared → Prop} {s : Shared} {env : Env} {h₀ : Heap} {x : Str} {body : List Stmt} {Q : Flow → Shared → Prop} {l : Addr} {v : Value} {m₀ : Str → Option Value} {news : List (Addr × Obj)}
    (J : (Str → Option Value) → List (Addr × Obj) → Prop)
    (hh : A.handled = none) (hl : h₀.IsList l #[v]) (F : Fr h₀ env.locals s.heap m₀) (N : News h₀ env.locals s.heap news)
    (turn : ∀ h tk I io, (∀ p ∈ news, p.1 < I) → Fr h₀ env.locals h (fun y => if y = x then some v else m₀ y) → News h₀ env.locals h ((I, io) :: news) →
      wpAny (model prog w) A (execs body env) (fun f s₂ => TurnEnd h₀ env.locals I io J { s with heap := h, toks := tk } Q f s₂) E { s with heap := h, toks := tk })
    (done : ∀ m' nx h tk, J m' nx → Fr h₀ env.locals h m' → News h₀ env.locals h nx → Q .next { s with heap := h, toks := tk }) :
    wpAny (model prog w) A (pyIter (.ref l)) (fun it s₂ => LoopAtV prog w A h₀ env x body Q E it s₂) E s := by
  have hls : s.heap.IsList l #[v] := hl.at fun o e => F.keep l o e
  obtain ⟨ol, hol, _⟩ := id hl
  have hlt : l < h₀.objs.size := Heap.lt_size hol
  have hne : l ≠ s.heap.objs.size := Nat.ne_of_lt (Nat.lt_trans (Nat.lt_of_lt_of_le hlt F.above) F.ns.lt)
  refine wpAny_pyIter_list hls ?_
  have W := Walks.list (prog := prog) (w := w) hh s.heap.objs.size l hne #[v]
  let J' : Nat → (Str → Option Value) → List (Addr × Obj) → Prop := fun i m₁ news₁ => if i = 0 then news₁ = news ∧ m₁ = m₀ else J m₁ news₁
  refine ⟨_, _, _, 1, _, _, m₀, news, J', rfl, W, ?_, ?_, ?_, ⟨⟨_, Heap.get?_push_size _ rfl, rfl, rfl⟩, hls.at fun o e => Heap.get?_push_of_some _ e⟩, F.push _, (fun p hp => ⟨Heap.get?_push_of_some _ (N p hp).1, (N p hp).2⟩), ⟨rfl, rfl⟩, ?_, ?_⟩
  · intro hm
    rcases List.mem_cons.mp hm with e | hm
    · exact absurd F.ns.lt (e ▸ Nat.lt_irrefl _)
    · exact absurd (Nat.lt_of_lt_of_le hlt F.above) ((List.mem_singleton.mp hm) ▸ Nat.lt_irrefl _)
  · intro b hb
    rw [List.mem_singleton.mp hb]
    exact next_is_new F
  · intro p hp hI
    exact absurd (Heap.lt_size (N p hp).1) ((List.mem_singleton.mp hI) ▸ Nat.lt_irrefl _)
  · rintro i v' m₁ news₁ s₁ own ⟨hh', tk', rfl⟩ hin hP hJ hoff hown hget hall hst F₁ N₁
    have hi : i = 0 := by have : i < 1 := hin; lia
    subst hi
    obtain ⟨rfl, rfl⟩ := hJ
    have hv : v' = v := by
      have hP' : (#[v] : Array Value)[0]? = some v' := hP
      simpa using hP'.symm
    subst hv
    obtain ⟨⟨io, hio, _⟩, _⟩ := hst
    have hb : h₀.get? s.heap.objs.size = none := next_is_new F
    have hmem := hall s.heap.objs.size (.head _) hb io hio
    have honly : ∀ p ∈ own, p = (s.heap.objs.size, io) := by
      intro p hp
      have h3 := (N₁ p (List.mem_append_left _ hp)).2.2
      rcases List.mem_cons.mp (hown p hp) with h1 | h1
      · obtain ⟨a, o⟩ := p
        dsimp only at h1
        subst h1
        have := hget _ hp
        rw [hio] at this
        injection this with this
        subst this; rfl
      · rw [List.mem_singleton.mp h1, hol] at h3
        cases h3
    refine wpAny_mono (turn hh' tk' s.heap.objs.size io (fun p hp => Heap.lt_size (N p hp).1) F₁ (fun p hp => ?_)) (fun f s₂ p => ?_) fun _ _ e => e
    · rcases List.mem_cons.mp hp with rfl | hp
      · exact N₁ _ (List.mem_append_left _ hmem)
      · exact N₁ _ (List.mem_append_right _ hp)
    · have fin : (∃ h' tk'' m' nx, s₂ = { s with heap := h', toks := tk'' } ∧ Fr h₀ env.locals h' m' ∧ News h₀ env.locals h' ((s.heap.objs.size, io) :: nx) ∧ (∀ p ∈ nx, p.1 ≠ s.heap.objs.size) ∧ J m' nx) → LoopStepU h₀ env.locals [s.heap.objs.size] own (J' (0 + 1)) { s with heap := hh', toks := tk' } .next s₂ := by
        rintro ⟨h', tk, m', nx, e, F', N', hn, hm⟩
        refine ⟨rfl, h', tk, m', nx, e, F', fun p hp => ?_, fun p hp hq => hn p hp (List.mem_singleton.mp hq), hm⟩
        rcases List.mem_append.mp hp with h1 | h1
        · rw [honly p h1]; exact N' _ (.head _)
        · exact N' _ (.tail _ h1)
      cases f with
      | ret v => exact .ret p
      | brk => exact .brk p
      | next => exact .next (fin p)
      | cont => exact .cont (fin p)
  · rintro h' tk m' news' F' N' _ hJ
    exact done m' news' h' _ hJ F' N'

theorem allLt_all {d : Addr} {l : List (Addr × Obj)} (h : AllLt d l) : ∀ p ∈ l, p.1 < d := by
  induction l with
  | nil => intro p hp; cases hp
  | cons q r ih =>
    intro p hp
    rcases List.mem_cons.mp hp with e | hp
    · rw [e]; exact h.1
    · exact ih h.2 p hp

end
section
/-- a stop of one's own on the walk -/
noncomputable def Halt (P : Prop) : Prop := P
theorem halt {P : Prop} (h : Halt P) : P := h
theorem halted {P : Prop} (h : P) : Halt P := h
theorem All2.len {α β : Type} {R : α → β → Prop} : ∀ {l : List α} {k : List β}, All2 R l k → l.length = k.length
  | _, _, .nil => rfl
  | _, _, .cons _ r => congrArg (· + 1) r.len
section
variable {prog : Program} {w : World} {A : Around} {E : Value → Shared → Prop} {s : Shared} {h₀ : Heap} {L : Addr} {m : Str → Option Value} {news : List (Addr × Obj)} {T y : Str} {tk : Tok}
theorem truthy_empty {Q : Bool → Shared → Prop} (h0 : T.cps.size = 0) (h : ∀ t, Q false { s with toks := t }) : wpAny (model prog w) A (truthy (.str T tk)) Q E s := by
  have e : T.length = 0 := h0
  refine P.truthy_str (by lia) ?_
  rw [e]; exact h _
theorem truthy_full {Q : Bool → Shared → Prop} (h0 : 0 < T.cps.size) (hz : T.cps.size ≤ 100000) (h : ∀ t, Q true { s with toks := t }) : wpAny (model prog w) A (truthy (.str T tk)) Q E s := by
  have e : 0 < T.length := h0
  have e2 : T.length ≤ 100000 := hz
  refine P.truthy_str (by lia) ?_
  rw [show ((T.length : Int) != 0) = true from bne_iff_ne.mpr (by lia)]
  exact h _
theorem group_Ky {a : Addr} {b e c d : Nat} {u : Tok} {Q : Value → Shared → Prop} (hm : MatAt s.heap a T tk [(b : Int), e, c, d].toArray) (hz : T.cps.size ≤ 100000) (hy : ⟨T.cps.extract c d⟩ = y)
    (k : ∀ t1 t2, Q (.str y t1) { s with toks := t2 }) :
    wpAny (model prog w) A (call (.builtin "re.Match.group") [.ref a, .int 1 u]) Q E s := by
  subst hy
  exact group_K hm hz k
theorem lstrip_y {Q : Value → Shared → Prop} (hz : T.cps.size ≤ 100000) (hy : PySem.Txt.lstrip T = y) (k : ∀ t1 t2, Q (.str y t1) { s with toks := t2 }) : wpAny (model prog w) A (call (.builtin "str.lstrip") [.str T tk]) Q E s := by
  subst hy
  exact SC.lstrip k (Nat.le_trans hz (by rw [sizeLine_eq]; decide))
theorem rstrip_y {Q : Value → Shared → Prop} (hz : T.cps.size ≤ 100000) (hy : PySem.Txt.rstrip T = y) (k : ∀ t1 t2, Q (.str y t1) { s with toks := t2 }) : wpAny (model prog w) A (call (.builtin "str.rstrip") [.str T tk]) Q E s := by
  subst hy
  exact SC.rstrip k (Nat.le_trans hz (by rw [sizeLine_eq]; decide))
theorem starts_y {c : Bool} {z : Str} {t2 : Tok} {Q : Value → Shared → Prop} (hy : PySem.Txt.startswith T z = c) (k : Q (.bool c) s) : wpAny (model prog w) A (call (.builtin "str.startswith") [.str T tk, .str z t2]) Q E s := by
  subst hy
  exact SC.startswith k
theorem line_100 {n : Nat} (h : n ≤ 100000) : n ≤ sizeLine := Nat.le_trans h (by rw [sizeLine_eq]; decide)
theorem le_line {n : Nat} (h : n ≤ 16777216) : n ≤ sizeLine := Nat.le_trans h (by rw [sizeLine_eq]; decide)
theorem lens : Str.empty.length = 0 ∧ (Str.ofString "=").length = 1 ∧ (Str.ofString "\"").length = 1 ∧ (Str.ofString " (").length = 2 ∧ (Str.ofString ", line ").length = 7 ∧ (Str.ofString ")").length = 1 := ⟨rfl, rfl, rfl, rfl, rfl, rfl⟩
theorem append_y {D : Addr} {its : Array Value} {n : Nat} {x : Value} {news' : List (Addr × Obj)} {Q : Value → Shared → Prop} (F : Fr h₀ L s.heap m) (N : News h₀ L s.heap news) (U : Upd D (listOf its n) (listOf (its.push x) (n + 1)) news news') (hz : its.size ≤ 100000)
    (h : ∀ h', Fr h₀ L h' m → News h₀ L h' news' → Q .none { s with heap := h' }) : wpAny (model prog w) A (call (.builtin "list.append") [.ref D, x]) Q E s := append_K F N U h (line_100 hz)
theorem pat_here {h : Heap} {p : Addr} {g : Nat} {C : Array Nat} (F : Fr h₀ L h m) (x : PatAt h₀ p g C) : PatAt h p g C := x.mono F.keep
end
/-- the text behind a match, as the program's own function makes it -/
theorem unm_K {w : World} {dp un : Nat} {gd : Option (List Code)} {A₀ : Around} {base h₀ : Heap} {outer : List Env} {env : Env} {L : Addr} {m : Str → Option Value} {news : List (Addr × Obj)} {s : Shared} {p : Program} {loose : List Str} {mean : ExcName → Option Value} {mg mb : Str → Option Value} {Q E : Value → Shared → Prop} {A : Around}
    (hA : A = ⟨none, dp, some (env :: outer), gd, un⟩) (F : Fr h₀ L s.heap m) (N : News h₀ L s.heap news) (X : (hd.heap_39 w.params).In h₀) (B : Below A₀ base outer h₀) (T0 : Top p loose mean mg mb h₀) (hf : env.frame = some L) (hke : env.scope.kind = .function) (hroom : dp < recursionLimit)
    {ma pa tp : Addr} {T y : Str} {tk : Tok} {po lim : Nat} {li : Int} {b c d : Nat} (h1 : (ma, matObj pa T tk po lim li tp) ∈ news) (h2 : (tp, spanObj [((0 : Nat) : Int), b, c, d]) ∈ news) (hz : T.cps.size ≤ 100000) (hb : b ≤ T.cps.size)
    (hy : ⟨T.cps.extract b T.cps.size⟩ = y) {g43 : Addr} (h43 : g43 = 43) (k : ∀ h' t' u, Fr h₀ L h' m → News h₀ L h' news → Q (.str y u) { s with heap := h', toks := t' }) :
    wpAny (model PySem.Challenge.rw_kl0472_01.row.prog w) A (call (.ref g43) [.ref ma]) Q E s := by
  subst hA h43
  refine wpAny_call (c_unmatched w dp un gd A₀ base h₀ outer env L m news s p loose mean mg mb X B F N T0 hf hke hroom _ ma pa tp T tk po lim li 0 b c d h1 h2 hz (Nat.zero_le _) hb ?_)
  intro h' t' u F' N'
  have e : (⟨T.cps.extract 0 0 ++ T.cps.extract b T.cps.size⟩ : Str) = y := by
    rw [← hy]; congr 1; simp
  rw [e]
  exact k _ _ _ F' N'
/-- the escapes are read back -/
theorem subS_K {w : World} {dp un : Nat} {gd : Option (List Code)} {A₀ : Around} {base h₀ : Heap} {outer : List Env} {env : Env} {L : Addr} {m : Str → Option Value} {news : List (Addr × Obj)} {s : Shared} {p : Program} {loose : List Str} {mean : ExcName → Option Value} {mg mb : Str → Option Value} {Q E : Value → Shared → Prop} {A : Around}
    {g63 : Addr} (h63 : g63 = 63) (hA : A = ⟨none, dp, some (env :: outer), gd, un⟩) (F : Fr h₀ L s.heap m) (N : News h₀ L s.heap news) (X : (hd.heap_39 w.params).In h₀) (B : Below A₀ base outer h₀) (T0 : Top p loose mean mg mb h₀) (hf : env.frame = some L) (hke : env.scope.kind = .function) (hroom : dp < recursionLimit)
    {f c' : Addr} {oc : Obj} {vs : Array Value} {qual : Str} {pm ctv : Value} {tq : Tok} {T : Str} {tk : Tok} {out : List Str}
    (h1 : (f, kla_obj "<lambda>" qual lamArgsS lamBodyS lamScopeS [] pm c' ctv) ∈ news) (h2 : h₀.get? c' = some oc ∨ (c', oc) ∈ news) (h3 : oc.data = .fields vs) (h4 : vs[1]? = some (.str qual tq))
    (hz : T.cps.size ≤ 100000) (H : SubRun CE T.cps [] 0 out) (hw : weight out ≤ 1000000) (hlen : out.length ≤ 100000) 
    (k : ∀ h' t' u, Fr h₀ L h' m → News h₀ L h' news → Q (.str (PySem.Txt.join ⟨#[]⟩ out) u) { s with heap := h', toks := t' }) :
    wpAny (model PySem.Challenge.rw_kl0472_01.row.prog w) A (call (.builtin "re.Pattern.sub") [.ref g63, .ref f, .str T tk]) Q E s := by
  subst hA h63
  have h2' : s.heap.get? c' = some oc := h2.elim (F.keep _ _) fun q => (N _ q).1
  refine call_sub (pre := []) hz ⟨_, (N _ h1).1, rfl⟩ ((pat_E X).mono F.keep) (cb_lamS w dp un gd A₀ base h₀ outer env L m s p loose mean mg mb X B F T0 hf hke hroom f c' oc vs qual pm ctv tq T tk (N _ h1).1 h2' h3 h4 hz) H hw hlen ?_
  intro h' t' u st
  exact k _ _ _ ⟨F.ns.keeps st, fun b o e => st b o (F.keep b o e), F.above⟩ fun p hp => ⟨st _ _ (N p hp).1, (N p hp).2⟩
theorem fr_three {h₀ h : Heap} {L : Addr} {m : Str → Option Value} {x y z : Str} {a b c : Value} (F : Fr h₀ L h m) (h1 : m x = some a) (h2 : m y = some b) (h3 : m z = some c) :
    Fr h₀ L h (fun n => if n = x then some a else if n = y then some b else if n = z then some c else m n) := by
  have e : m = (fun n => if n = x then some a else if n = y then some b else if n = z then some c else m n) := by
    funext n
    by_cases q1 : n = x
    · rw [if_pos q1, q1, h1]
    · rw [if_neg q1]
      by_cases q2 : n = y
      · rw [if_pos q2, q2, h2]
      · rw [if_neg q2]
        by_cases q3 : n = z
        · rw [if_pos q3, q3, h3]
        · rw [if_neg q3]
  exact e ▸ F
/-- the end of a while's turn -/
noncomputable def WEnd (h₀ : Heap) (L : Addr) (s : Shared) (J : Nat → (Str → Option Value) → List (Addr × Obj) → Prop) (Q : Flow → Shared → Prop) (n : Nat) (f : Flow) (s₃ : Shared) : Prop := WhileStep2 h₀ L s J Q n f s₃
open PySem.Spec in
theorem while_mine {prog : Program} {w : World} {A : Around} {E : Value → Shared → Prop} {Q : Flow → Shared → Prop} {s : Shared} {env : Env} {h₀ : Heap} {L : Addr} {test : PySem.Expr} {body : List Stmt} {pos : Pos} {m : Str → Option Value} {news : List (Addr × Obj)} (J : Nat → (Str → Option Value) → List (Addr × Obj) → Prop) {n₀ : Nat}
    (F : Fr h₀ L s.heap m) (N : News h₀ L s.heap news) (hJ : J n₀ m news)
    (turn : ∀ n m₁ news₁ h₁ tk₁, Fr h₀ L h₁ m₁ → News h₀ L h₁ news₁ → J n m₁ news₁ →
      wpAny (model prog w) A (isTrue test env (eval test env)) (fun b s₂ =>
        if b = true then wpAny (model prog w) A (execs body env) (fun f s₃ => WEnd h₀ L s J Q n f s₃) E s₂ else Q .next s₂) E { s with heap := h₁, toks := tk₁ })
    (hE : PassesOwn (model prog w) A env E := by passes_own) :
    wpAny (model prog w) A (exec (.While test body [] pos) env) Q E s := While_inv2 J F N hJ turn hE
theorem wend {h₀ : Heap} {L : Addr} {s : Shared} {J : Nat → (Str → Option Value) → List (Addr × Obj) → Prop} {Q : Flow → Shared → Prop} {n n' : Nat} {h' : Heap} {tk : Nat} {m₂ : Str → Option Value} {news₁ : List (Addr × Obj)} (news₂ : List (Addr × Obj)) (F : Fr h₀ L h' m₂) (N : News h₀ L h' news₁) (hl : n' < n) (hs : ∀ p ∈ news₂, p ∈ news₁) (j : J n' m₂ news₂) : WEnd h₀ L s J Q n .next { s with heap := h', toks := tk } :=
  ⟨h', tk, m₂, news₂, n', rfl, F, fun p hp => N p (hs p hp), hl, j⟩
theorem turn_end {h₀ : Heap} {L I : Addr} {io : Obj} {J : (Str → Option Value) → List (Addr × Obj) → Prop} {s : Shared} {Q : Flow → Shared → Prop} {h' : Heap} {tk : Nat} {m₂ : Str → Option Value} {news₁ : List (Addr × Obj)} (news₂ : List (Addr × Obj)) (F : Fr h₀ L h' m₂) (N : News h₀ L h' news₁) (hi : (I, io) ∈ news₁) (hs : ∀ p ∈ news₂, p ∈ news₁) (hn : ∀ p ∈ news₂, p.1 ≠ I) (j : J m₂ news₂) : TurnEnd h₀ L I io J s Q .next { s with heap := h', toks := tk } :=
  ⟨h', tk, m₂, news₂, rfl, F, fun p hp => (List.mem_cons.mp hp).elim (fun e => e ▸ N _ hi) fun q => N p (hs p q), hn, j⟩

open PySem.Spec in
/-- the while with the empty turn apart, and the others free of what follows -/
theorem while_mine2 {prog : Program} {w : World} {A : Around} {E : Value → Shared → Prop} {Q : Flow → Shared → Prop} {s : Shared} {env : Env} {h₀ : Heap} {L : Addr} {test : PySem.Expr} {body : List Stmt} {pos : Pos} {m : Str → Option Value} {news : List (Addr × Obj)} (J : Nat → (Str → Option Value) → List (Addr × Obj) → Prop) {n₀ : Nat}
    (F : Fr h₀ L s.heap m) (N : News h₀ L s.heap news) (hJ : J n₀ m news)
    (stop : ∀ m₁ news₁ h₁ tk₁, Fr h₀ L h₁ m₁ → News h₀ L h₁ news₁ → J 0 m₁ news₁ →
      wpAny (model prog w) A (isTrue test env (eval test env)) (fun b s₂ => if b = true then False else Q .next s₂) E { s with heap := h₁, toks := tk₁ })
    (turn : ∀ n m₁ news₁ h₁ tk₁ (Q : Flow → Shared → Prop), Fr h₀ L h₁ m₁ → News h₀ L h₁ news₁ → J n m₁ news₁ → 0 < n →
      wpAny (model prog w) A (isTrue test env (eval test env)) (fun b s₂ =>
        if b = true then wpAny (model prog w) A (execs body env) (fun f s₃ => WEnd h₀ L s J Q n f s₃) E s₂ else Q .next s₂) E { s with heap := h₁, toks := tk₁ })
    (hE : PassesOwn (model prog w) A env E := by passes_own) :
    wpAny (model prog w) A (exec (.While test body [] pos) env) Q E s := While_inv2 J F N hJ (fun n m₁ news₁ h₁ tk₁ F₁ N₁ J₁ => by
      by_cases hn : n = 0
      · subst hn
        refine wpAny_mono (stop m₁ news₁ h₁ tk₁ F₁ N₁ J₁) (fun b s₂ hb => ?_) fun _ _ e => e
        by_cases q : b = true
        · rw [if_pos q] at hb; exact hb.elim
        · rw [if_neg q] at hb ⊢; exact hb
      · exact turn n m₁ news₁ h₁ tk₁ Q F₁ N₁ J₁ (Nat.pos_of_ne_zero hn)) hE

end
section
/-- a fact that the closers are not to take apart -/
noncomputable def Hid (p : Prop) : Prop := p
/-- the state of the reader's table of consts, in its own ledger -/
noncomputable def TabN (g : Heap) (line col : Nat) (qual : Str) (rest : List (Addr × Obj)) (tb : Array Value) : Prop := tb = #[] ∨ ∃ (c' : Addr) (oc : Obj) (vs : Array Value) (t : Tok), tb = #[rawInt line, rawInt col, .ref c'] ∧ 82 < c' ∧ (g.get? c' = some oc ∨ (c', oc) ∈ rest) ∧ oc.data = .fields vs ∧ vs[1]? = some (.str qual t)
theorem TabN.ofH {g h : Heap} {line col : Nat} {qual : Str} {tb : Array Value} {l : List (Addr × Obj)} (x : TabH h line col qual tb) (kp : ∀ b o, b ∉ l.map (·.1) → h.get? b = some o → g.get? b = some o) (hl : ∀ p ∈ l, p.1 ≤ 82) : TabN g line col qual [] tb := by
  rcases x with x | ⟨c', oc, vs, t, e, h1, h2, h3, h4⟩
  · exact .inl x
  · refine .inr ⟨c', oc, vs, t, e, h1, .inl (kp _ _ (fun q => ?_) h2), h3, h4⟩
    obtain ⟨p, hp, rfl⟩ := List.mem_map.mp q
    have a1 : @LE.le Nat _ p.1 82 := hl p hp
    have a2 : @LT.lt Nat _ 82 p.1 := h1
    lia
/-- what the while loop of the reader holds to -/
inductive JW (g : Heap) (t82 : Array Value) (I : Addr) (io : Obj) (fin : List (List Wd)) : Nat → (Str → Option Value) → List (Addr × Obj) → Prop
  | mk {m : Str → Option Value} (x : Str) (tx : Tok) (pa ra : Addr) (pits rits tb : Array Value) (np nr : Nat) (rest : List (Addr × Obj)) (ws : List Wd) (gs : List (List Wd)) :
    x.cps.size ≤ 100000 → m "text" = some (.str x tx) → m "pairs" = some (.ref pa) → m "result" = some (.ref ra) → TabN g 26 49 qualS rest tb →
    (∀ p ∈ rest, 82 < p.1) → (∀ p ∈ rest, p.1 ≠ pa) → (∀ p ∈ rest, p.1 ≠ ra) → (∀ p ∈ rest, p.1 ≠ I) → @LT.lt Nat _ 82 I → @LT.lt Nat _ 82 ra → @LT.lt Nat _ 82 pa → @Ne Nat I ra → @Ne Nat I pa → @Ne Nat ra pa →
    All2 (ItemN rest) pits.toList ws → All2 (RowN rest) rits.toList gs → x.cps.size + ws.length + gs.length ≤ 100000 → Run x ws gs fin →
    JW g t82 I io fin x.cps.size m ((pa, listOf pits np) :: (ra, listOf rits nr) :: (I, io) :: (82, tabObj t82) :: (65, tabObj tb) :: rest)
inductive JF (g : Heap) (t82 : Array Value) (fin : List (List Wd)) : (Str → Option Value) → List (Addr × Obj) → Prop
  | mk {m : Str → Option Value} (ra : Addr) (rits tb : Array Value) (nr : Nat) (rest : List (Addr × Obj)) :
    m "result" = some (.ref ra) → TabN g 26 49 qualS rest tb → (∀ p ∈ rest, 82 < p.1) → @LT.lt Nat _ 82 ra → All2 (RowN rest) rits.toList fin → JF g t82 fin m ((ra, listOf rits nr) :: (82, tabObj t82) :: (65, tabObj tb) :: rest)

theorem TabN.ext {g : Heap} {line col : Nat} {qual : Str} {rest rest' : List (Addr × Obj)} {tb : Array Value} (x : TabN g line col qual rest tb) (h : ∀ p ∈ rest, p ∈ rest') : TabN g line col qual rest' tb := by
  rcases x with x | ⟨c', oc, vs, t, e, h1, h2, h3⟩
  · exact .inl x
  · exact .inr ⟨c', oc, vs, t, e, h1, h2.imp id (h _), h3⟩
section
variable {g h : Heap} {L I pa ra : Addr} {s : Shared} {Q' : Flow → Shared → Prop} {t82 pits rits tb tb' : Array Value} {io : Obj} {fin : List (List Wd)} {x y name : Str} {val : Option Str} {tx ty t1 : Tok} {np nr tk : Nat} {rest : List (Addr × Obj)} {ws : List Wd} {gs : List (List Wd)} {m₂ : Str → Option Value} {news : List (Addr × Obj)}
/-- a word is put to the words of its list -/
theorem jw_word (ex : List (Addr × Obj)) {D : Addr} {v2 : Value} (F : Fr g L h m₂) (N : News g L h ((D, { cls := .type "tuple", data := .seq #[.str name t1, v2] }) :: news))
    (hsub : ∀ p ∈ (pa, listOf (pits.push (.ref D)) (np + 1)) :: (ra, listOf rits nr) :: (I, io) :: (82, tabObj t82) :: (65, tabObj tb') :: (ex ++ rest), p ∈ (D, ({ cls := .type "tuple", data := .seq #[.str name t1, v2] } : Obj)) :: news)
    (hm1 : m₂ "text" = some (.str y ty)) (hm2 : m₂ "pairs" = some (.ref pa)) (hm3 : m₂ "result" = some (.ref ra)) (hT : TabN g 26 49 qualS (ex ++ rest) tb')
    (hex : ∀ p ∈ ex, 82 < p.1 ∧ p.1 ≠ pa ∧ p.1 ≠ ra ∧ p.1 ≠ I) (r1 : ∀ p ∈ rest, 82 < p.1) (r2 : ∀ p ∈ rest, p.1 ≠ pa) (r3 : ∀ p ∈ rest, p.1 ≠ ra) (r4 : ∀ p ∈ rest, p.1 ≠ I) (o1 : @LT.lt Nat _ 82 I) (o2 : @LT.lt Nat _ 82 ra) (o3 : @LT.lt Nat _ 82 pa) (o4 : @Ne Nat I ra) (o5 : @Ne Nat I pa) (o6 : @Ne Nat ra pa)
    (A1 : All2 (ItemN rest) pits.toList ws) (A2 : All2 (RowN rest) rits.toList gs) (lz : x.cps.size + ws.length + gs.length ≤ 100000) (hlt : y.cps.size < x.cps.size)
    (lD : @LT.lt Nat _ pa D ∧ @LT.lt Nat _ ra D ∧ @LT.lt Nat _ I D) (hv : ValIs val v2) (H : Run y (ws ++ [(name, val)]) gs fin) : WEnd g L s (JW g t82 I io fin) Q' x.cps.size .next { s with heap := h, toks := tk } := by
  obtain ⟨d1, d2, d3⟩ := lD
  have n1 : @Ne Nat D pa := by lia
  have n2 : @Ne Nat D ra := by lia
  have n3 : @Ne Nat D I := by lia
  have n4 : @LT.lt Nat _ 82 D := by lia
  have sub : ∀ p ∈ rest, p ∈ (D, ({ cls := .type "tuple", data := .seq #[.str name t1, v2] } : Obj)) :: (ex ++ rest) := fun p hp => .tail _ (List.mem_append_right _ hp)
  have all : ∀ (P : Addr × Obj → Prop), P (D, { cls := .type "tuple", data := .seq #[.str name t1, v2] }) → (∀ p ∈ ex, P p) → (∀ p ∈ rest, P p) → ∀ p ∈ (D, ({ cls := .type "tuple", data := .seq #[.str name t1, v2] } : Obj)) :: (ex ++ rest), P p := by
    intro P q1 q2 q3 p hp
    rcases List.mem_cons.mp hp with rfl | hp
    · exact q1
    · exact (List.mem_append.mp hp).elim (q2 p) (q3 p)
  refine wend ((pa, listOf (pits.push (.ref D)) (np + 1)) :: (ra, listOf rits nr) :: (I, io) :: (82, tabObj t82) :: (65, tabObj tb') :: (D, { cls := .type "tuple", data := .seq #[.str name t1, v2] }) :: (ex ++ rest)) F N hlt ?_
    ⟨y, ty, pa, ra, _, rits, tb', np + 1, nr, _, ws ++ [(name, val)], gs, by lia, hm1, hm2, hm3, hT.ext fun p hp => .tail _ hp, all _ n4 (fun p hp => (hex p hp).1) r1, all _ n1 (fun p hp => (hex p hp).2.1) r2, all _ n2 (fun p hp => (hex p hp).2.2.1) r3, all _ n3 (fun p hp => (hex p hp).2.2.2) r4, o1, o2, o3, o4, o5, o6, ?_, forall2_mono (fun _ _ => RowN.mono sub) A2, by simp only [List.length_append, List.length_singleton]; lia, H⟩
  · intro p hp
    rcases List.mem_cons.mp hp with q | hp
    · exact hsub p (q ▸ .head _)
    rcases List.mem_cons.mp hp with q | hp
    · exact hsub p (q ▸ .tail _ (.head _))
    rcases List.mem_cons.mp hp with q | hp
    · exact hsub p (q ▸ .tail _ (.tail _ (.head _)))
    rcases List.mem_cons.mp hp with q | hp
    · exact hsub p (q ▸ .tail _ (.tail _ (.tail _ (.head _))))
    rcases List.mem_cons.mp hp with q | hp
    · exact hsub p (q ▸ .tail _ (.tail _ (.tail _ (.tail _ (.head _)))))
    rcases List.mem_cons.mp hp with q | hp
    · exact q ▸ .head _
    · exact hsub p (.tail _ (.tail _ (.tail _ (.tail _ (.tail _ hp)))))
  · rw [Array.toList_push]
    exact forall2_snoc ⟨D, t1, v2, rfl, .head _, hv⟩ (forall2_mono (fun _ _ => ItemN.mono sub) A1)
/-- the same, when the lambda's code is made -/
theorem jw_nest {D f c' : Addr} {v2 : Value} {fo oc : Obj} {vs : Array Value} {tq : Tok} (F : Fr g L h m₂) (N : News g L h ((D, { cls := .type "tuple", data := .seq #[.str name t1, v2] }) :: (f, fo) :: (c', oc) :: news))
    (d1 : oc.data = .fields vs) (d2 : vs[1]? = some (.str qualS tq)) (lc : @LT.lt Nat _ pa c' ∧ @LT.lt Nat _ ra c' ∧ @LT.lt Nat _ I c')
    (hsub : ∀ p ∈ (pa, listOf (pits.push (.ref D)) (np + 1)) :: (ra, listOf rits nr) :: (I, io) :: (82, tabObj t82) :: (65, tabObj (#[] ++ #[rawInt 26, rawInt 49, .ref c'])) :: rest, p ∈ news)
    (hm1 : m₂ "text" = some (.str y ty)) (hm2 : m₂ "pairs" = some (.ref pa)) (hm3 : m₂ "result" = some (.ref ra))
    (r1 : ∀ p ∈ rest, 82 < p.1) (r2 : ∀ p ∈ rest, p.1 ≠ pa) (r3 : ∀ p ∈ rest, p.1 ≠ ra) (r4 : ∀ p ∈ rest, p.1 ≠ I) (o1 : @LT.lt Nat _ 82 I) (o2 : @LT.lt Nat _ 82 ra) (o3 : @LT.lt Nat _ 82 pa) (o4 : @Ne Nat I ra) (o5 : @Ne Nat I pa) (o6 : @Ne Nat ra pa)
    (A1 : All2 (ItemN rest) pits.toList ws) (A2 : All2 (RowN rest) rits.toList gs) (lz : x.cps.size + ws.length + gs.length ≤ 100000) (hlt : y.cps.size < x.cps.size)
    (lD : @LT.lt Nat _ pa D ∧ @LT.lt Nat _ ra D ∧ @LT.lt Nat _ I D) (hv : ValIs val v2) (H : Run y (ws ++ [(name, val)]) gs fin) : WEnd g L s (JW g t82 I io fin) Q' x.cps.size .next { s with heap := h, toks := tk } := by
  obtain ⟨c1, c2, c3⟩ := lc
  have n4 : @LT.lt Nat _ 82 c' := by lia
  have n1 : @Ne Nat c' pa := by lia
  have n2 : @Ne Nat c' ra := by lia
  have n3 : @Ne Nat c' I := by lia
  refine jw_word (np := np) (nr := nr) (tb' := #[] ++ #[rawInt 26, rawInt 49, .ref c']) [(c', oc)] F N (fun p hp => ?_) hm1 hm2 hm3 (.inr ⟨c', oc, vs, tq, rfl, n4, .inr (.head _), d1, d2⟩) (fun p hp => by rw [List.mem_singleton.mp hp]; exact ⟨n4, n1, n2, n3⟩) r1 r2 r3 r4 o1 o2 o3 o4 o5 o6 A1 A2 lz hlt lD hv H
  simp only [List.mem_cons, List.singleton_append] at hp ⊢
  rcases hp with q | q | q | q | q | q | q
  · exact .inr (.inr (.inr (hsub p (q ▸ .head _))))
  · exact .inr (.inr (.inr (hsub p (q ▸ .tail _ (.head _)))))
  · exact .inr (.inr (.inr (hsub p (q ▸ .tail _ (.tail _ (.head _))))))
  · exact .inr (.inr (.inr (hsub p (q ▸ .tail _ (.tail _ (.tail _ (.head _)))))))
  · exact .inr (.inr (.inr (hsub p (q ▸ .tail _ (.tail _ (.tail _ (.tail _ (.head _))))))))
  · exact .inr (.inr (.inl q))
  · exact .inr (.inr (.inr (hsub p (.tail _ (.tail _ (.tail _ (.tail _ (.tail _ q))))))))
/-- the junk is passed over -/
theorem jw_junk (F : Fr g L h m₂) (N : News g L h news)
    (hsub : ∀ p ∈ (pa, listOf pits np) :: (ra, listOf rits nr) :: (I, io) :: (82, tabObj t82) :: (65, tabObj tb) :: rest, p ∈ news)
    (hm1 : m₂ "text" = some (.str y ty)) (hm2 : m₂ "pairs" = some (.ref pa)) (hm3 : m₂ "result" = some (.ref ra)) (hT : TabN g 26 49 qualS rest tb)
    (r1 : ∀ p ∈ rest, 82 < p.1) (r2 : ∀ p ∈ rest, p.1 ≠ pa) (r3 : ∀ p ∈ rest, p.1 ≠ ra) (r4 : ∀ p ∈ rest, p.1 ≠ I) (o1 : @LT.lt Nat _ 82 I) (o2 : @LT.lt Nat _ 82 ra) (o3 : @LT.lt Nat _ 82 pa) (o4 : @Ne Nat I ra) (o5 : @Ne Nat I pa) (o6 : @Ne Nat ra pa)
    (A1 : All2 (ItemN rest) pits.toList ws) (A2 : All2 (RowN rest) rits.toList gs) (lz : x.cps.size + ws.length + gs.length ≤ 100000) (hlt : y.cps.size < x.cps.size) (H : Run y ws gs fin) : WEnd g L s (JW g t82 I io fin) Q' x.cps.size .next { s with heap := h, toks := tk } :=
  wend _ F N hlt hsub ⟨y, ty, pa, ra, pits, rits, tb, np, nr, rest, ws, gs, by lia, hm1, hm2, hm3, hT, r1, r2, r3, r4, o1, o2, o3, o4, o5, o6, A1, A2, by lia, H⟩
theorem shut_cons (hp : pits.isEmpty = false) (A1 : All2 (ItemN rest) pits.toList ws) : shut ws gs = gs ++ [ws] := by
  have h1 := A1.len
  have h2 : pits.size ≠ 0 := fun q => by rw [Array.isEmpty, q] at hp; exact absurd hp (by decide)
  unfold shut
  rw [if_neg]
  intro q
  have : ws.length = 0 := by rw [List.isEmpty_iff.mp q]; rfl
  rw [this, Array.length_toList] at h1
  exact h2 h1
theorem shut_nil (hp : pits.isEmpty = true) (A1 : All2 (ItemN rest) pits.toList ws) : shut ws gs = gs := by
  have h1 := A1.len
  have h2 : pits.size = 0 := of_decide_eq_true hp
  unfold shut
  rw [if_pos]
  cases ws with
  | nil => rfl
  | cons a b => rw [Array.length_toList, h2] at h1; cases h1
/-- a comma shuts a list -/
theorem jw_comma {D : Addr} (F : Fr g L h m₂) (N : News g L h ((D, listOf #[] 0) :: (pa, listOf pits np) :: (ra, listOf (rits.push (.ref pa)) (nr + 1)) :: (I, io) :: (82, tabObj t82) :: (65, tabObj tb) :: rest))
    (hm1 : m₂ "text" = some (.str y ty)) (hm2 : m₂ "pairs" = some (.ref D)) (hm3 : m₂ "result" = some (.ref ra)) (hT : TabN g 26 49 qualS rest tb)
    (r1 : ∀ p ∈ rest, 82 < p.1) (r2 : ∀ p ∈ rest, p.1 ≠ pa) (r3 : ∀ p ∈ rest, p.1 ≠ ra) (r4 : ∀ p ∈ rest, p.1 ≠ I) (o1 : @LT.lt Nat _ 82 I) (o2 : @LT.lt Nat _ 82 ra) (o3 : @LT.lt Nat _ 82 pa) (o4 : @Ne Nat I ra) (o5 : @Ne Nat I pa) (o6 : @Ne Nat ra pa)
    (A1 : All2 (ItemN rest) pits.toList ws) (A2 : All2 (RowN rest) rits.toList gs) (lz : x.cps.size + ws.length + gs.length ≤ 100000) (hlt : y.cps.size < x.cps.size)
    (lD : @LT.lt Nat _ pa D ∧ @LT.lt Nat _ ra D ∧ @LT.lt Nat _ I D ∧ AllLt D rest) (hp : pits.isEmpty = false) (H : Run y [] (shut ws gs) fin) : WEnd g L s (JW g t82 I io fin) Q' x.cps.size .next { s with heap := h, toks := tk } := by
  obtain ⟨d1, d2, d3, d4⟩ := lD
  have n4 : @LT.lt Nat _ 82 D := by lia
  have n5 : @Ne Nat I D := by lia
  have n6 : @Ne Nat ra D := by lia
  have n1 : @Ne Nat pa D := by lia
  have n2 : @Ne Nat pa ra := by lia
  have n3 : @Ne Nat pa I := by lia
  have sub : ∀ p ∈ rest, p ∈ (pa, listOf pits np) :: rest := fun p hp => .tail _ hp
  have all : ∀ (P : Addr × Obj → Prop), P (pa, listOf pits np) → (∀ p ∈ rest, P p) → ∀ p ∈ (pa, listOf pits np) :: rest, P p := by
    intro P q1 q3 p hp
    rcases List.mem_cons.mp hp with rfl | hp
    · exact q1
    · exact q3 p hp
  rw [shut_cons hp A1] at H
  refine wend ((D, listOf #[] 0) :: (ra, listOf (rits.push (.ref pa)) (nr + 1)) :: (I, io) :: (82, tabObj t82) :: (65, tabObj tb) :: (pa, listOf pits np) :: rest) F N hlt ?_
    ⟨y, ty, D, ra, #[], _, tb, 0, nr + 1, _, [], gs ++ [ws], by lia, hm1, hm2, hm3, hT.ext sub, all _ o3 r1, all _ n1 (fun p hp => Nat.ne_of_lt (allLt_all d4 p hp)), all _ n2 r3, all _ n3 r4, o1, o2, n4, o4, n5, n6, .nil, ?_, by simp only [List.length_append, List.length_singleton, List.length_nil]; lia, H⟩
  · intro p hp
    simp only [List.mem_cons] at hp ⊢
    rcases hp with q | q | q | q | q | q | q <;> simp [q]
  · rw [Array.toList_push]
    exact forall2_snoc ⟨pa, pits, np, rfl, .head _, forall2_mono (fun _ _ => ItemN.mono sub) A1⟩ (forall2_mono (fun _ _ => RowN.mono sub) A2)
theorem jw_comma0 {D : Addr} (F : Fr g L h m₂) (N : News g L h ((D, listOf #[] 0) :: (pa, listOf pits np) :: (ra, listOf rits nr) :: (I, io) :: (82, tabObj t82) :: (65, tabObj tb) :: rest))
    (hm1 : m₂ "text" = some (.str y ty)) (hm2 : m₂ "pairs" = some (.ref D)) (hm3 : m₂ "result" = some (.ref ra)) (hT : TabN g 26 49 qualS rest tb)
    (r1 : ∀ p ∈ rest, 82 < p.1) (r3 : ∀ p ∈ rest, p.1 ≠ ra) (r4 : ∀ p ∈ rest, p.1 ≠ I) (o1 : @LT.lt Nat _ 82 I) (o2 : @LT.lt Nat _ 82 ra) (o3 : @LT.lt Nat _ 82 pa) (o4 : @Ne Nat I ra) (o5 : @Ne Nat I pa) (o6 : @Ne Nat ra pa)
    (A1 : All2 (ItemN rest) pits.toList ws) (A2 : All2 (RowN rest) rits.toList gs) (lz : x.cps.size + ws.length + gs.length ≤ 100000) (hlt : y.cps.size < x.cps.size)
    (lD : @LT.lt Nat _ pa D ∧ @LT.lt Nat _ ra D ∧ @LT.lt Nat _ I D ∧ AllLt D rest) (hp : pits.isEmpty = true) (H : Run y [] (shut ws gs) fin) : WEnd g L s (JW g t82 I io fin) Q' x.cps.size .next { s with heap := h, toks := tk } := by
  obtain ⟨d1, d2, d3, d4⟩ := lD
  have n4 : @LT.lt Nat _ 82 D := by lia
  have n5 : @Ne Nat I D := by lia
  have n6 : @Ne Nat ra D := by lia
  rw [shut_nil hp A1] at H
  refine wend ((D, listOf #[] 0) :: (ra, listOf rits nr) :: (I, io) :: (82, tabObj t82) :: (65, tabObj tb) :: rest) F N hlt ?_
    ⟨y, ty, D, ra, #[], _, tb, 0, nr, _, [], gs, by lia, hm1, hm2, hm3, hT, r1, (fun p hp => Nat.ne_of_lt (allLt_all d4 p hp)), r3, r4, o1, o2, n4, o4, n5, n6, .nil, A2, by simp only [List.length_nil]; lia, H⟩
  intro p hp
  simp only [List.mem_cons] at hp ⊢
  rcases hp with q | q | q | q | q | q <;> simp [q]
/-- the end of the loop -/
theorem jf_end {Q : Flow → Shared → Prop} (hf : fin = shut ws gs) (F : Fr g L h m₂) (N : News g L h ((pa, listOf pits np) :: (ra, listOf (rits.push (.ref pa)) (nr + 1)) :: (I, io) :: (82, tabObj t82) :: (65, tabObj tb) :: rest))
    (hm3 : m₂ "result" = some (.ref ra)) (hT : TabN g 26 49 qualS rest tb) (r1 : ∀ p ∈ rest, 82 < p.1) (r4 : ∀ p ∈ rest, p.1 ≠ I) (o1 : @LT.lt Nat _ 82 I) (o2 : @LT.lt Nat _ 82 ra) (o3 : @LT.lt Nat _ 82 pa) (o4 : @Ne Nat I ra) (o5 : @Ne Nat I pa)
    (A1 : All2 (ItemN rest) pits.toList ws) (A2 : All2 (RowN rest) rits.toList gs) (hp : pits.isEmpty = false) : TurnEnd g L I io (JF g t82 fin) s Q .next { s with heap := h, toks := tk } := by
  have sub : ∀ p ∈ rest, p ∈ (pa, listOf pits np) :: rest := fun p hp => .tail _ hp
  rw [hf, shut_cons hp A1]
  refine turn_end ((ra, listOf (rits.push (.ref pa)) (nr + 1)) :: (82, tabObj t82) :: (65, tabObj tb) :: (pa, listOf pits np) :: rest) F N (.tail _ (.tail _ (.head _))) ?_ ?_ ⟨ra, _, tb, nr + 1, _, hm3, hT.ext sub, ?_, o2, ?_⟩
  · intro p hp
    simp only [List.mem_cons] at hp ⊢
    rcases hp with q | q | q | q | q <;> simp [q]
  · intro p hp
    have n1 : @Ne Nat ra I := by lia
    have n2 : @Ne Nat 82 I := by lia
    have n3 : @Ne Nat 65 I := by lia
    have n4 : @Ne Nat pa I := by lia
    simp only [List.mem_cons] at hp
    rcases hp with rfl | rfl | rfl | rfl | q
    · exact n1
    · exact n2
    · exact n3
    · exact n4
    · exact r4 p q
  · intro p hp
    rcases List.mem_cons.mp hp with rfl | hp
    · exact o3
    · exact r1 p hp
  · rw [Array.toList_push]
    exact forall2_snoc ⟨pa, pits, np, rfl, .head _, forall2_mono (fun _ _ => ItemN.mono sub) A1⟩ (forall2_mono (fun _ _ => RowN.mono sub) A2)
theorem jf_end0 {Q : Flow → Shared → Prop} (hf : fin = shut ws gs) (F : Fr g L h m₂) (N : News g L h ((pa, listOf pits np) :: (ra, listOf rits nr) :: (I, io) :: (82, tabObj t82) :: (65, tabObj tb) :: rest))
    (hm3 : m₂ "result" = some (.ref ra)) (hT : TabN g 26 49 qualS rest tb) (r1 : ∀ p ∈ rest, 82 < p.1) (r4 : ∀ p ∈ rest, p.1 ≠ I) (o1 : @LT.lt Nat _ 82 I) (o2 : @LT.lt Nat _ 82 ra) (o3 : @LT.lt Nat _ 82 pa) (o4 : @Ne Nat I ra) (o5 : @Ne Nat I pa)
    (A1 : All2 (ItemN rest) pits.toList ws) (A2 : All2 (RowN rest) rits.toList gs) (hp : pits.isEmpty = true) : TurnEnd g L I io (JF g t82 fin) s Q .next { s with heap := h, toks := tk } := by
  rw [hf, shut_nil hp A1]
  refine turn_end ((ra, listOf rits nr) :: (82, tabObj t82) :: (65, tabObj tb) :: rest) F N (.tail _ (.tail _ (.head _))) ?_ ?_ ⟨ra, _, tb, nr, _, hm3, hT, r1, o2, A2⟩
  · intro p hp
    simp only [List.mem_cons] at hp ⊢
    rcases hp with q | q | q | q <;> simp [q]
  · intro p hp
    have n1 : @Ne Nat ra I := by lia
    have n2 : @Ne Nat 82 I := by lia
    have n3 : @Ne Nat 65 I := by lia
    simp only [List.mem_cons] at hp
    rcases hp with rfl | rfl | rfl | q
    · exact n1
    · exact n2
    · exact n3
    · exact r4 p q
/-- the words of a ledger, on the heap -/
theorem ItemN.heap (N : News g L h news) (h82 : ∀ p ∈ rest, 82 < p.1) (sub : ∀ p ∈ rest, p ∈ news) {v : Value} {w : Wd} (x : ItemN rest v w) : ItemH h v w := by
  obtain ⟨a, t, v2, e, hm, r⟩ := x
  exact ⟨a, t, v2, e, h82 _ hm, (N _ (sub _ hm)).1, r⟩
theorem RowN.heap (N : News g L h news) (h82 : ∀ p ∈ rest, 82 < p.1) (sub : ∀ p ∈ rest, p ∈ news) {v : Value} {w : List Wd} (x : RowN rest v w) : RowH h v w := by
  obtain ⟨a, its, n, e, hm, r⟩ := x
  exact ⟨a, its, n, e, h82 _ hm, (N _ (sub _ hm)).1, forall2_mono (fun _ _ q => q.heap N h82 sub) r⟩
theorem TabN.heap (F : Fr g L h m₂) (N : News g L h news) (sub : ∀ p ∈ rest, p ∈ news) {line col : Nat} {qual : Str} (x : TabN g line col qual rest tb) : TabH h line col qual tb := by
  rcases x with x | ⟨c', oc, vs, t, e, h1, h2, h3, h4⟩
  · exact .inl x
  · exact .inr ⟨c', oc, vs, t, e, h1, h2.elim (F.keep _ _) (fun q => (N _ (sub _ q)).1), h3, h4⟩
end

theorem news_swap {h₀ h : Heap} {L : Addr} {a b c : Addr × Obj} {r : List (Addr × Obj)} (N : News h₀ L h (a :: b :: c :: r)) : News h₀ L h (a :: c :: b :: r) := fun p hp => N p (by
  simp only [List.mem_cons] at hp ⊢
  rcases hp with q | q | q | q <;> simp [q])

theorem but_end {s h g : Heap} {L L₀ : Addr} {h₀ : Heap} {m : Str → Option Value} {t65 t82 : Array Value} {news : List (Addr × Obj)} (N : News h₀ L₀ s [(82, tabObj t82), (65, tabObj t65)])
    (kp : ∀ b o, b ∉ List.map (·.1) [((82 : Addr), tabObj t82), ((65 : Addr), tabObj t65)] → s.get? b = some o → g.get? b = some o) (F : Fr g L h m) (Nz : News g L h news) (h82 : (82, tabObj t82) ∈ news) : But [65] s h := by
  intro b o hb e
  by_cases q : b = 82
  · subst q
    rw [(N _ (.head _)).1] at e
    injection e with e
    subst e
    exact (Nz _ h82).1
  · refine F.keep _ _ (kp _ _ (fun hm => ?_) e)
    simp only [List.map_cons, List.map_nil, List.mem_cons, List.not_mem_nil, or_false] at hm
    rcases hm with r | r
    · exact q r
    · exact hb (by rw [r]; exact .head _)

/-- the run ends where no text is left -/
theorem run_stop {x : Str} {ws : List Wd} {gs fin : List (List Wd)} (H : Run x ws gs fin) (h0 : x.cps.size = 0) : fin = shut ws gs := by
  cases H with
  | done _ => rfl
  | word h1 => lia
  | comma h1 => lia
  | junk h1 => lia
/-- a turn of the run, case by case -/
theorem run_turn {x : Str} {ws : List Wd} {gs fin : List (List Wd)} {P : Prop} (H : Run x ws gs fin) (hpos : 0 < x.cps.size)
    (alone : ∀ (name y : Str) (b c d : Nat), Finds CT x.cps b c d → ⟨x.cps.extract c d⟩ = name → ⟨x.cps.extract b x.cps.size⟩ = y → y.cps.size ≤ 100000 → Misses CQ y.cps → Misses CV y.cps → y.cps.size < x.cps.size → Run y (ws ++ [(name, none)]) gs fin → P)
    (bare : ∀ (name x1 raw y : Str) (b c d b2 c2 d2 : Nat), Finds CT x.cps b c d → ⟨x.cps.extract c d⟩ = name → ⟨x.cps.extract b x.cps.size⟩ = x1 → x1.cps.size ≤ 100000 →
      Misses CQ x1.cps → Finds CV x1.cps b2 c2 d2 → ⟨x1.cps.extract c2 d2⟩ = raw → ⟨x1.cps.extract b2 x1.cps.size⟩ = y → raw.cps.size ≤ 100000 → PySem.Txt.rstrip raw = raw → y.cps.size < x.cps.size → Run y (ws ++ [(name, some raw)]) gs fin → P)
    (quo : ∀ (name x1 raw y : Str) (b c d b2 c2 d2 : Nat) (out : List Str), Finds CT x.cps b c d → ⟨x.cps.extract c d⟩ = name → ⟨x.cps.extract b x.cps.size⟩ = x1 → x1.cps.size ≤ 100000 →
      Finds CQ x1.cps b2 c2 d2 → ⟨x1.cps.extract c2 d2⟩ = raw → ⟨x1.cps.extract b2 x1.cps.size⟩ = y → raw.cps.size ≤ 100000 → SubRun CE raw.cps [] 0 out → weight out ≤ 1000000 → out.length ≤ 100000 → y.cps.size < x.cps.size → Run y (ws ++ [(name, some (PySem.Txt.join ⟨#[]⟩ out))]) gs fin → P)
    (comma : ∀ (x1 y : Str), Misses CT x.cps → PySem.Txt.lstrip x = x1 → PySem.Txt.startswith x1 (Str.ofString ",") = true → x1.cps.size ≤ 100000 →
      PySem.Txt.slice x1 (some 1) none = y → y.cps.size < x.cps.size → Run y [] (shut ws gs) fin → P)
    (junk : ∀ (x1 y : Str) (n : Nat), Misses CT x.cps → PySem.Txt.lstrip x = x1 → PySem.Txt.startswith x1 (Str.ofString ",") = false →
      0 < n → n ≤ x.cps.size → (∀ q, q < n → junk (x.cps.getD q 0) = true) → (n = x.cps.size ∨ junk (x.cps.getD n 0) = false) → ⟨x.cps.extract n x.cps.size⟩ = y → y.cps.size < x.cps.size → Run y ws gs fin → P) : P := by
  cases H with
  | done h0 => lia
  | word h0 h1 hW hlt H' =>
    cases hW with
    | alone f1 f2 f3 f4 f5 f6 => exact alone _ _ _ _ _ f1 f2 f3 f4 f5 f6 hlt H'
    | bare f1 f2 f3 f4 f5 f6 f7 f8 f9 f10 => exact bare _ _ _ _ _ _ _ _ _ _ f1 f2 f3 f4 f5 f6 f7 f8 f9 f10 hlt H'
    | quo f1 f2 f3 f4 f5 f6 f7 f8 f9 f10 f11 => exact quo _ _ _ _ _ _ _ _ _ _ _ f1 f2 f3 f4 f5 f6 f7 f8 f9 f10 f11 hlt H'
  | comma h0 h1 f1 f2 f3 f4 f5 hlt H' => exact comma _ _ f1 f2 f3 f4 f5 hlt H'
  | junk h0 h1 f1 f2 f3 f4 f5 f6 f7 f8 hlt H' => exact junk _ _ _ f1 f2 f3 f4 f5 f6 f7 f8 hlt H'
/-- the table is empty, or holds the code -/
theorem TabN.two {g : Heap} {line col : Nat} {qual : Str} {rest : List (Addr × Obj)} {tb : Array Value} {P : Array Value → Prop} (x : TabN g line col qual rest tb) (a : P #[])
    (b : ∀ (c' : Addr) (oc : Obj) (vs : Array Value) (t : Tok), 82 < c' → Hid (g.get? c' = some oc ∨ (c', oc) ∈ rest) → oc.data = .fields vs → vs[1]? = some (.str qual t) → P #[rawInt line, rawInt col, .ref c']) : P tb := by
  rcases x with rfl | ⟨c', oc, vs, t, rfl, h1, h2, h3, h4⟩
  · exact a
  · exact b c' oc vs t h1 h2 h3 h4
open PySem.Spec in
/-- the reader's while, its state taken apart -/
theorem while_JW {prog : Program} {w : World} {A : Around} {E : Value → Shared → Prop} {Q : Flow → Shared → Prop} {s : Shared} {env : Env} {g : Heap} {L I : Addr} {io : Obj} {t82 : Array Value} {fin : List (List Wd)} {test : PySem.Expr} {body : List Stmt} {pos : Pos} {m : Str → Option Value} {news : List (Addr × Obj)} {n₀ : Nat}
    (F : Fr g L s.heap m) (N : News g L s.heap news) (hJ : JW g t82 I io fin n₀ m news)
    (stop : ∀ (h₁ : Heap) (tk₁ : Nat) (m₁ : Str → Option Value) (x : Str) (tx : Tok) (pa ra : Addr) (pits rits tb : Array Value) (np nr : Nat) (rest : List (Addr × Obj)) (ws : List Wd) (gs : List (List Wd)) (hf : fin = shut ws gs) (h0 : x.cps.size = 0) (hT : TabN g 26 49 qualS rest tb) (r1 : ∀ p ∈ rest, 82 < p.1) (r2 : ∀ p ∈ rest, p.1 ≠ pa) (r3 : ∀ p ∈ rest, p.1 ≠ ra) (r4 : ∀ p ∈ rest, p.1 ≠ I) (A1 : All2 (ItemN rest) pits.toList ws) (A2 : All2 (RowN rest) rits.toList gs)
      (N₁ : News g L h₁ ((pa, listOf pits np) :: (ra, listOf rits nr) :: (I, io) :: (82, tabObj t82) :: (65, tabObj tb) :: rest)) (hp100 : pits.size ≤ 100000) (hr100 : rits.size ≤ 100000)
      (F₁ : Fr g L h₁ (fun n => if n = Str.ofString "text" then some (.str x tx) else if n = Str.ofString "pairs" then some (.ref pa) else if n = Str.ofString "result" then some (.ref ra) else m₁ n))
      (e65 : ∀ p ∈ rest, p.1 ≠ 65) (e82 : ∀ p ∈ rest, p.1 ≠ 82) (o1 : @LT.lt Nat _ 82 I) (o2 : @LT.lt Nat _ 82 ra) (o3 : @LT.lt Nat _ 82 pa) (o4 : @Ne Nat I ra) (o5 : @Ne Nat I pa) (o6 : @Ne Nat ra pa),
      wpAny (model prog w) A (isTrue test env (eval test env)) (fun b s₂ => if b = true then False else Q .next s₂) E { s with heap := h₁, toks := tk₁ })
    (turn : ∀ (h₁ : Heap) (tk₁ : Nat) (m₁ : Str → Option Value) (x : Str) (tx : Tok) (pa ra : Addr) (pits rits tb : Array Value) (np nr : Nat) (rest : List (Addr × Obj)) (ws : List Wd) (gs : List (List Wd)) (Q : Flow → Shared → Prop) (hz : x.cps.size ≤ 100000) (lz : x.cps.size + ws.length + gs.length ≤ 100000) (hpos : 0 < x.cps.size) (H : Run x ws gs fin) (hT : TabN g 26 49 qualS rest tb) (r1 : ∀ p ∈ rest, 82 < p.1) (r2 : ∀ p ∈ rest, p.1 ≠ pa) (r3 : ∀ p ∈ rest, p.1 ≠ ra) (r4 : ∀ p ∈ rest, p.1 ≠ I) (A1 : All2 (ItemN rest) pits.toList ws) (A2 : All2 (RowN rest) rits.toList gs)
      (N₁ : News g L h₁ ((pa, listOf pits np) :: (ra, listOf rits nr) :: (I, io) :: (82, tabObj t82) :: (65, tabObj tb) :: rest)) (hp100 : pits.size ≤ 100000) (hr100 : rits.size ≤ 100000)
      (F₁ : Fr g L h₁ (fun n => if n = Str.ofString "text" then some (.str x tx) else if n = Str.ofString "pairs" then some (.ref pa) else if n = Str.ofString "result" then some (.ref ra) else m₁ n))
      (e65 : ∀ p ∈ rest, p.1 ≠ 65) (e82 : ∀ p ∈ rest, p.1 ≠ 82) (o1 : @LT.lt Nat _ 82 I) (o2 : @LT.lt Nat _ 82 ra) (o3 : @LT.lt Nat _ 82 pa) (o4 : @Ne Nat I ra) (o5 : @Ne Nat I pa) (o6 : @Ne Nat ra pa),
      wpAny (model prog w) A (isTrue test env (eval test env)) (fun b s₂ =>
        if b = true then wpAny (model prog w) A (execs body env) (fun f s₃ => WEnd g L s (JW g t82 I io fin) Q x.cps.size f s₃) E s₂ else Q .next s₂) E { s with heap := h₁, toks := tk₁ })
    (hE : PassesOwn (model prog w) A env E := by passes_own) :
    wpAny (model prog w) A (exec (.While test body [] pos) env) Q E s := by
  refine while_mine2 (JW g t82 I io fin) F N hJ ?_ ?_ hE
  · intro m₁ news₁ h₁ tk₁ F₁ N₁ H
    generalize hn : 0 = n at H
    cases H with
    | mk x tx pa ra pits rits tb np nr rest ws gs hz hm1 hm2 hm3 hT r1 r2 r3 r4 o1 o2 o3 o4 o5 o6 A1 A2 lz H =>
    have a1 := A1.len
    have a2 := A2.len
    rw [Array.length_toList] at a1 a2
    exact stop h₁ tk₁ m₁ x tx pa ra pits rits tb np nr rest ws gs (run_stop H hn.symm) hn.symm hT r1 r2 r3 r4 A1 A2 N₁ (by lia) (by lia) (fr_three F₁ hm1 hm2 hm3)
      (fun p hp => neN (by have a2 := ltN (r1 p hp); lia)) (fun p hp => neN (by have a2 := ltN (r1 p hp); lia)) o1 o2 o3 o4 o5 o6
  · intro n m₁ news₁ h₁ tk₁ Q' F₁ N₁ H hpos
    cases H with
    | mk x tx pa ra pits rits tb np nr rest ws gs hz hm1 hm2 hm3 hT r1 r2 r3 r4 o1 o2 o3 o4 o5 o6 A1 A2 lz H =>
    have a1 := A1.len
    have a2 := A2.len
    rw [Array.length_toList] at a1 a2
    exact turn h₁ tk₁ m₁ x tx pa ra pits rits tb np nr rest ws gs Q' hz lz hpos H hT r1 r2 r3 r4 A1 A2 N₁ (by lia) (by lia) (fr_three F₁ hm1 hm2 hm3)
      (fun p hp => neN (by have a2 := ltN (r1 p hp); lia)) (fun p hp => neN (by have a2 := ltN (r1 p hp); lia)) o1 o2 o3 o4 o5 o6

end
section
open PySem.Spec in
/-- a for loop over a list that the base holds, for any target -/
theorem forLoop_base {prog : Program} {w : World} {A : Around} {s : Shared} {env : Env} {h₀ : Heap} {target : PySem.Expr} {body : List Stmt} {R : Result → Shared → Prop} {I l : Addr} {items : Array Value} {m : Str → Option Value} {news : List (Addr × Obj)} (put : (Str → Option Value) → Value → Str → Option Value)
    (hh : A.handled = none) (hl : h₀.IsList l items) (hIL : I ≠ env.locals) (hI0 : h₀.get? I = none) (hit : s.heap.IsListIter I l 0) (F : Fr h₀ env.locals s.heap m) (N : News h₀ env.locals s.heap news) (hn : ∀ p ∈ news, p.1 ≠ I)
    (J : Nat → (Str → Option Value) → List (Addr × Obj) → Prop) (hJ : J 0 m news)
    (hput : ∀ i v (s₁ : Shared) m₁ (Q' : Unit → Shared → Prop) (E' : Value → Shared → Prop), items[i]? = some v → s₁.heap.IsListIter I l (i + 1) → Fr h₀ env.locals s₁.heap m₁ → (∀ h' t', (∀ b o, b ≠ env.locals → s₁.heap.get? b = some o → h'.get? b = some o) → Fr h₀ env.locals h' (put m₁ v) → Q' () { s₁ with heap := h', toks := t' }) →
      wpAny (model prog w) A (letOwnedTupleGo target (.ref I) v) (fun _ s₂ => wpAny (model prog w) A (assign target env v) Q' E' s₂) E' s₁)
    (step : ∀ i v m₁ nx h tk io, items[i]? = some v → J i m₁ nx → (∀ p ∈ nx, p.1 ≠ I) → Fr h₀ env.locals h (put m₁ v) → News h₀ env.locals h ((I, io) :: nx) →
      wpAny (model prog w) A (execs body env) (fun f s₃ => TurnEnd h₀ env.locals I io (J (i + 1)) { s with heap := h, toks := tk } (fun f s' => R (.ok f) s') f s₃) (notedBy (model prog w) A env fun e s' => R (.error e) s') { s with heap := h, toks := tk })
    (hR : ∀ h' tk m' nx, Fr h₀ env.locals h' m' → News h₀ env.locals h' nx → J items.size m' nx → R (.ok .next) { s with heap := h', toks := tk }) :
    codeAny (model prog w) A (.forLoop target (.ref I) body [] env) R s := by
  refine codeAny_forLoop_any
    (fun k s' => ∃ h' tk m' nx i, s' = { s with heap := h', toks := tk } ∧ h'.IsListIter I l i ∧ Fr h₀ env.locals h' m' ∧ News h₀ env.locals h' nx ∧ (∀ p ∈ nx, p.1 ≠ I) ∧ J i m' nx ∧ i ≤ items.size ∧ k = items.size + 1 - i) ?_ (items.size + 1)
    ⟨s.heap, s.toks, m, news, 0, rfl, hit, F, N, hn, hJ, Nat.zero_le _, rfl⟩
  rintro k s' ⟨H, tk, m', nx, i, rfl, hit', F', N', hn', hJ', hi, rfl⟩
  have hls : H.IsList l items := hl.at fun o e => F'.keep l o e
  have keep : ∀ h₁ : Heap, (∀ b o, b ≠ I → H.get? b = some o → h₁.get? b = some o) → Fr h₀ env.locals h₁ m' ∧ News h₀ env.locals h₁ nx := fun h₁ hk =>
    ⟨⟨F'.ns.at' fun o e => hk _ o (fun q => hIL q.symm) e, fun b o e => hk b o (fun q => by rw [q, hI0] at e; cases e) (F'.keep b o e), F'.above⟩, fun p hp => ⟨hk _ _ (hn' p hp) (N' p hp).1, (N' p hp).2⟩⟩
  by_cases hlt : i < items.size
  · have hx : items[i]? = some items[i] := Array.getElem?_eq_getElem hlt
    refine wpAny_pyNext_list_item hit' hls hx fun h₁ hit₁ hs₁ => ?_
    obtain ⟨F₁, N₁⟩ := keep h₁ fun b o hb e => hs₁.extBut b o hb e
    refine hput i _ _ m' _ _ hx hit₁ F₁ fun h₂ t₂ hk₂ F₂ => ?_
    obtain ⟨io, hio, hc, hd⟩ := hit₁
    have hio₂ : h₂.get? I = some io := hk₂ _ _ hIL hio
    have N₂ : News h₀ env.locals h₂ ((I, io) :: nx) := fun p hp => by
      rcases List.mem_cons.mp hp with rfl | hp
      · exact ⟨hio₂, hIL, hI0⟩
      · exact ⟨hk₂ _ _ (N₁ p hp).2.1 (N₁ p hp).1, (N₁ p hp).2⟩
    refine wpAny_mono (step i _ m' nx h₂ t₂ io hx hJ' hn' F₂ N₂) (fun f s₃ h₆ => ?_) fun _ _ e => e
    have fin : (∃ h' tk' m₂ nx₂, s₃ = { s with heap := h', toks := tk' } ∧ Fr h₀ env.locals h' m₂ ∧ News h₀ env.locals h' ((I, io) :: nx₂) ∧ (∀ p ∈ nx₂, p.1 ≠ I) ∧ J (i + 1) m₂ nx₂) →
        ∃ k, k < items.size + 1 - i ∧ ∃ h' tk m' nx i, s₃ = { s with heap := h', toks := tk } ∧ h'.IsListIter I l i ∧ Fr h₀ env.locals h' m' ∧ News h₀ env.locals h' nx ∧ (∀ p ∈ nx, p.1 ≠ I) ∧ J i m' nx ∧ i ≤ items.size ∧ k = items.size + 1 - i := by
      rintro ⟨h', tk', m₂, nx₂, e, F₃, N₃, hn₃, hJ₃⟩
      exact ⟨items.size + 1 - (i + 1), by lia, h', tk', m₂, nx₂, i + 1, e, ⟨io, (N₃ _ (.head _)).1, hc, hd⟩, F₃, fun p hp => N₃ p (.tail _ hp), hn₃, hJ₃, hlt, rfl⟩
    cases f with
    | ret v => exact h₆
    | brk => exact h₆
    | cont => exact fin h₆
    | next => exact fin h₆
  · have hin : i = items.size := by lia
    subst hin
    refine wpAny_pyNext_list_end hh hit' hls (by simp) fun h₁ hk₁ => wpAny_execs_nil ?_
    obtain ⟨F₁, N₁⟩ := keep h₁ fun b o hb e => hk₁ b o hb e
    exact hR h₁ tk m' nx F₁ N₁ hJ'
/-- the name that a value is put under -/
noncomputable abbrev put1 (x : Str) (m : Str → Option Value) (v : Value) : Str → Option Value := fun y => if y = x then some v else m y
noncomputable abbrev put2 (x y : Str) (a b : Value) (m : Str → Option Value) : Str → Option Value := fun z => if z = y then some b else if z = x then some a else m z
open PySem.Spec in
/-- for x in l -/
theorem for_name {prog : Program} {w : World} {A : Around} {E : Value → Shared → Prop} {s : Shared} {env : Env} {h₀ : Heap} {x : Str} {px pos : Pos} {iter : PySem.Expr} {body : List Stmt} {Q : Flow → Shared → Prop} {l : Addr} {items : Array Value} {m : Str → Option Value} {news : List (Addr × Obj)}
    (J : Nat → (Str → Option Value) → List (Addr × Obj) → Prop)
    (hh : A.handled = none) (hx : env.kindOf x = some .local) (hp : (env.scope.kind == .class || (env.scope.kind == .module && env.locals != env.globals)) = false)
    (hl : h₀.IsList l items) (F : Fr h₀ env.locals s.heap m) (N : News h₀ env.locals s.heap news) (hJ : J 0 m news)
    (step : ∀ i v m₁ nx h tk I io (Q' : Flow → Shared → Prop), items[i]? = some v → J i m₁ nx → (∀ p ∈ nx, p.1 ≠ I) → (∀ p ∈ news, p.1 < I) → Fr h₀ env.locals h (fun y => if y = x then some v else m₁ y) → News h₀ env.locals h ((I, io) :: nx) →
      wpAny (model prog w) A (execs body env) (fun f s₃ => TurnEnd h₀ env.locals I io (J (i + 1)) { s with heap := h, toks := tk } Q' f s₃) E { s with heap := h, toks := tk })
    (hR : ∀ h' tk m' nx, Fr h₀ env.locals h' m' → News h₀ env.locals h' nx → J items.size m' nx → Q .next { s with heap := h', toks := tk })
    (he : wpAny (model prog w) A (eval iter env) (fun v s' => v = .ref l ∧ s' = s) E s) (hs : ∀ x, foldedSetIterable iter env x = pure x := by intro _; rfl)
    (hE : PassesOwn (model prog w) A env E := by passes_own) :
    wpAny (model prog w) A (exec (.For (.Name x px) iter body [] pos) env) Q E s := by
  refine wpAny_For (wpAny_mono he (fun xv s₁ h₁ => ?_) fun _ _ e => e) hs
  obtain ⟨rfl, rfl⟩ := h₁
  have hls : s₁.heap.IsList l items := hl.at fun o e => F.keep l o e
  have hIL : s₁.heap.objs.size ≠ env.locals := Nat.ne_of_gt F.ns.lt
  refine wpAny_pyIter_list hls ?_
  refine forLoop_base (R := fun r s' => match r with | .ok f => Q f s' | .error e => cameBackBy (model prog w) A env E e s') (put1 x) hh hl hIL (next_is_new F) ⟨_, Heap.get?_push_size _ rfl, rfl, rfl⟩ (F.push _) (fun p hp => ⟨Heap.get?_push_of_some _ (N p hp).1, (N p hp).2⟩) (fun p hp => Nat.ne_of_lt (Heap.lt_size (N p hp).1)) J hJ ?_ ?_ ?_
  · intro i v s₂ m₁ Q' E' hi hit F₁ k
    refine wpAny_pure (wpAny_assign_Name (wpAny_storeName_local hx F₁.ns (fun h₂ hn₂ hs₂ => ?_) hp))
    exact k h₂ _ (fun b o hb e => (hs₂.2 b hb).trans e) (F₁.set hn₂ hs₂)
  · intro i v m₁ nx h tk io hi hj hn F₁ N₁
    exact wpAny_passesOwn hE (step i v m₁ nx h tk _ io _ hi hj hn (fun p hp => Heap.lt_size (N p hp).1) F₁ N₁)
  · exact hR
open PySem.Spec in
/-- for x, y in l: each thing a tuple of two, of the base -/
theorem for_pair {prog : Program} {w : World} {A : Around} {E : Value → Shared → Prop} {s : Shared} {env : Env} {h₀ : Heap} {x y : Str} {px py pt pos : Pos} {x1 : Nat} {iter : PySem.Expr} {body : List Stmt} {Q : Flow → Shared → Prop} {l : Addr} {items : Array Value} {m : Str → Option Value} {news : List (Addr × Obj)}
    (fst snd : Value → Value) (J : Nat → (Str → Option Value) → List (Addr × Obj) → Prop)
    (hh : A.handled = none) (hx : env.kindOf x = some .local) (hy : env.kindOf y = some .local) (hp : (env.scope.kind == .class || (env.scope.kind == .module && env.locals != env.globals)) = false)
    (hl : h₀.IsList l items) (hits : ∀ (i : Nat) (v : Value), items[i]? = some v → ∃ T, v = .ref T ∧ h₀.IsTuple T #[fst v, snd v]) (F : Fr h₀ env.locals s.heap m) (N : News h₀ env.locals s.heap news) (hJ : J 0 m news)
    (step : ∀ i v a b m₁ nx h tk I io (Q' : Flow → Shared → Prop), items[i]? = some v → fst v = a → snd v = b → J i m₁ nx → (∀ p ∈ nx, p.1 ≠ I) → (∀ p ∈ news, p.1 < I) → Fr h₀ env.locals h (fun z => if z = y then some b else if z = x then some a else m₁ z) → News h₀ env.locals h ((I, io) :: nx) →
      wpAny (model prog w) A (execs body env) (fun f s₃ => TurnEnd h₀ env.locals I io (J (i + 1)) { s with heap := h, toks := tk } Q' f s₃) E { s with heap := h, toks := tk })
    (hR : ∀ h' tk m' nx, Fr h₀ env.locals h' m' → News h₀ env.locals h' nx → J items.size m' nx → Q .next { s with heap := h', toks := tk })
    (he : wpAny (model prog w) A (eval iter env) (fun v s' => v = .ref l ∧ s' = s) E s) (hs : ∀ x, foldedSetIterable iter env x = pure x := by intro _; rfl)
    (hE : PassesOwn (model prog w) A env E := by passes_own) :
    wpAny (model prog w) A (exec (.For (.Tuple [.Name x px, .Name y py] x1 pt) iter body [] pos) env) Q E s := by
  refine wpAny_For (wpAny_mono he (fun xv s₁ h₁ => ?_) fun _ _ e => e) hs
  obtain ⟨rfl, rfl⟩ := h₁
  have hls : s₁.heap.IsList l items := hl.at fun o e => F.keep l o e
  have hIL : s₁.heap.objs.size ≠ env.locals := Nat.ne_of_gt F.ns.lt
  refine wpAny_pyIter_list hls ?_
  refine forLoop_base (R := fun r s' => match r with | .ok f => Q f s' | .error e => cameBackBy (model prog w) A env E e s') (fun m v => put2 x y (fst v) (snd v) m) hh hl hIL (next_is_new F) ⟨_, Heap.get?_push_size _ rfl, rfl, rfl⟩ (F.push _) (fun p hp => ⟨Heap.get?_push_of_some _ (N p hp).1, (N p hp).2⟩) (fun p hp => Nat.ne_of_lt (Heap.lt_size (N p hp).1)) J hJ ?_ ?_ ?_
  · intro i v s₂ m₁ Q' E' hi hit F₁ k
    obtain ⟨T, rfl, hT⟩ := hits i v hi
    refine wpAny_letOwnedTupleGo_listiter hit ?_
    have hT₂ : s₂.heap.IsTuple T #[fst (.ref T), snd (.ref T)] := by
      obtain ⟨o, e, r⟩ := hT
      exact ⟨o, F₁.keep _ _ e, r⟩
    refine wpAny_assign_Tuple hh hT₂ rfl rfl fun h₃ hx₃ => ?_
    have up₃ : ∀ b o, s₂.heap.get? b = some o → h₃.get? b = some o := fun b o e => hx₃ b o (Nat.ne_of_lt (Heap.lt_size e)) e
    have F₃ : Fr h₀ env.locals h₃ m₁ := ⟨F₁.ns.at' fun o e => up₃ _ o e, fun b o e => up₃ b o (F₁.keep b o e), F₁.above⟩
    show wpAny _ A (do holding [snd (.ref T)] (assign (.Name x px) env (fst (.ref T))); do holding [] (assign (.Name y py) env (snd (.ref T))); pure ()) _ _ _
    refine wpAny_bind (wpAny_holding (wpAny_assign_Name (wpAny_storeName_local hx F₃.ns (fun h₄ hn₄ hs₄ => ?_) hp)))
    replace hs₄ : Heap.SameBut env.locals h₃ h₄ := hs₄
    have F₄ := F₃.set hn₄ hs₄
    refine wpAny_bind (wpAny_holding (wpAny_assign_Name (wpAny_storeName_local hy F₄.ns (fun h₅ hn₅ hs₅ => wpAny_pure ?_) hp)))
    replace hs₅ : Heap.SameBut env.locals h₄ h₅ := hs₅
    exact k h₅ _ (fun b o hb e => (hs₅.2 b hb).trans ((hs₄.2 b hb).trans (up₃ b o e))) (F₄.set hn₅ hs₅)
  · intro i v m₁ nx h tk io hi hj hn F₁ N₁
    exact wpAny_passesOwn hE (step i v _ _ m₁ nx h tk _ io _ hi rfl rfl hj hn (fun p hp => Heap.lt_size (N p hp).1) F₁ N₁)
  · exact hR

end
section
noncomputable abbrev qualJ : Str := (Str.ofString "join_header_words").append (Str.ofString ".<locals>.") ++ Str.ofString "<lambda>"
/-- how one word is written -/
inductive Attr : Wd → Str → Prop
  | alone {k : Str} : Attr (k, none) k
  | bare {k v : Str} : FullOk v.cps → v.cps.size ≤ 100000 → k.cps.size ≤ 100000 → Attr (k, some v) (Str.empty ++ k ++ Str.ofString "=" ++ v)
  | quo {k v : Str} {out : List Str} : FullNo v.cps → v.cps.size ≤ 100000 → k.cps.size ≤ 100000 → SubRun CJE v.cps [92] 0 out → weight out ≤ 1000000 → out.length ≤ 100000 → (PySem.Txt.join ⟨#[]⟩ out).cps.size ≤ 1000000 →
      Attr (k, some v) (Str.empty ++ k ++ Str.ofString "=" ++ (Str.ofString "\"" ++ PySem.Txt.join ⟨#[]⟩ out ++ Str.ofString "\""))
noncomputable def headsOf (zss : List (List Str)) : List Str := (zss.filter (fun zs => !zs.isEmpty)).map (PySem.Txt.join (Str.ofString "; "))
noncomputable def RowOk (ws : List Wd) (zs : List Str) : Prop := All2 Attr ws zs ∧ weight zs + zs.length * 64 ≤ 16777216 ∧ zs.length ≤ 100000
/-- what join_header_words makes of the lists -/
noncomputable def JoinText (gs : List (List Wd)) (T : Str) : Prop := ∃ zss, All2 RowOk gs zss ∧ weight (headsOf zss) + (headsOf zss).length * 64 ≤ 16777216 ∧ (headsOf zss).length ≤ 100000 ∧ T = PySem.Txt.join (Str.ofString ", ") (headsOf zss)
theorem headsOf_snoc (l : List (List Str)) (z : List Str) : headsOf (l ++ [z]) = headsOf l ++ (if z.isEmpty then [] else [PySem.Txt.join (Str.ofString "; ") z]) := by
  unfold headsOf
  rw [List.filter_append, List.map_append]
  congr 1
  cases z <;> rfl
theorem headsOf_le (l k : List (List Str)) : (headsOf l).length ≤ (headsOf (l ++ k)).length := by
  unfold headsOf
  rw [List.filter_append, List.map_append, List.length_append]
  lia
theorem All2.get {α β : Type} {R : α → β → Prop} : ∀ {l : List α} {k : List β}, All2 R l k → ∀ (i : Nat) (a : α), l[i]? = some a → ∃ b, k[i]? = some b ∧ R a b
  | _, _, .cons x r, 0, a, h => by cases h; exact ⟨_, rfl, x⟩
  | _, _, .cons x r, i + 1, a, h => r.get i a h
theorem take_snoc {α : Type} (l : List α) (i : Nat) (a : α) (h : l[i]? = some a) : l.take (i + 1) = l.take i ++ [a] := by
  rw [List.take_add_one, h]; rfl
/-- the parts of a tuple, from the heap -/
noncomputable def partAt (g : Heap) (j : Nat) (v : Value) : Value := match v with
  | .ref a => match g.get? a with
    | some o => (match o.data with | .seq items _ => items.getD j .none | _ => .none)
    | none => .none
  | _ => .none
theorem partAt_of {g : Heap} {a : Addr} {x y : Value} (h : g.get? a = some (tupOf [x, y])) : partAt g 0 (.ref a) = x ∧ partAt g 1 (.ref a) = y := by
  constructor <;> (simp only [partAt]; rw [h]; rfl)
theorem ItemH.stay {h h' : Heap} (k : ∀ b o, 82 < b → h.get? b = some o → h'.get? b = some o) {v : Value} {w : Wd} (x : ItemH h v w) : ItemH h' v w := by
  obtain ⟨a, t, v2, e, h1, h2, r⟩ := x
  exact ⟨a, t, v2, e, h1, k _ _ h1 h2, r⟩
theorem RowH.stay {h h' : Heap} (k : ∀ b o, 82 < b → h.get? b = some o → h'.get? b = some o) {v : Value} {w : List Wd} (x : RowH h v w) : RowH h' v w := by
  obtain ⟨a, its, n, e, h1, h2, r⟩ := x
  exact ⟨a, its, n, e, h1, k _ _ h1 h2, forall2_mono (fun _ _ => ItemH.stay k) r⟩
theorem RowsH.stay {h h' : Heap} (k : ∀ b o, 82 < b → h.get? b = some o → h'.get? b = some o) {v : Value} {w : List (List Wd)} (x : RowsH h v w) : RowsH h' v w := by
  obtain ⟨a, its, n, e, h1, h2, r⟩ := x
  exact ⟨a, its, n, e, h1, k _ _ h1 h2, forall2_mono (fun _ _ => RowH.stay k) r⟩
theorem kp_82 {s g : Heap} {t82 t65 : Array Value} (kp : ∀ b o, b ∉ List.map (·.1) [((82 : Addr), tabObj t82), ((65 : Addr), tabObj t65)] → s.get? b = some o → g.get? b = some o) : ∀ b o, 82 < b → s.get? b = some o → g.get? b = some o := fun b o hb e => kp b o (fun q => by
  have hb' : @LT.lt Nat _ 82 b := hb
  simp only [List.map_cons, List.map_nil, List.mem_cons, List.not_mem_nil, or_false] at q
  rcases q with r | r
  · rw [r] at hb'; exact absurd hb' (by decide)
  · rw [r] at hb'; exact absurd hb' (by decide)) e
/-- the escapes are written -/
theorem subJ_K {w : World} {dp un : Nat} {gd : Option (List Code)} {A₀ : Around} {base h₀ : Heap} {outer : List Env} {env : Env} {L : Addr} {m : Str → Option Value} {news : List (Addr × Obj)} {s : Shared} {p : Program} {loose : List Str} {mean : ExcName → Option Value} {mg mb : Str → Option Value} {Q E : Value → Shared → Prop} {A : Around}
    {g80 : Addr} (h80 : g80 = 80) (hA : A = ⟨none, dp, some (env :: outer), gd, un⟩) (F : Fr h₀ L s.heap m) (N : News h₀ L s.heap news) (X : (hd.heap_39 w.params).In h₀) (B : Below A₀ base outer h₀) (T0 : Top p loose mean mg mb h₀) (hf : env.frame = some L) (hke : env.scope.kind = .function) (hroom : dp < recursionLimit)
    {f c' : Addr} {oc : Obj} {vs : Array Value} {qual : Str} {pm ctv : Value} {tq : Tok} {T : Str} {tk : Tok} {out : List Str}
    (h1 : (f, kla_obj "<lambda>" qual lamArgsJ lamBodyJ lamScopeJ [] pm c' ctv) ∈ news) (h2 : h₀.get? c' = some oc ∨ (c', oc) ∈ news) (h3 : oc.data = .fields vs) (h4 : vs[1]? = some (.str qual tq))
    (hz : T.cps.size ≤ 100000) (H : SubRun CJE T.cps [92] 0 out) (hw : weight out ≤ 1000000) (hlen : out.length ≤ 100000) 
    (k : ∀ h' t' u, Fr h₀ L h' m → News h₀ L h' news → Q (.str (PySem.Txt.join ⟨#[]⟩ out) u) { s with heap := h', toks := t' }) :
    wpAny (model PySem.Challenge.rw_kl0472_01.row.prog w) A (call (.builtin "re.Pattern.sub") [.ref g80, .ref f, .str T tk]) Q E s := by
  subst hA h80
  have h2' : s.heap.get? c' = some oc := h2.elim (F.keep _ _) fun q => (N _ q).1
  refine call_sub (pre := [92]) hz ⟨_, (N _ h1).1, rfl⟩ ((pat_JE X).mono F.keep) (cb_lamJ w dp un gd A₀ base h₀ outer env L m s p loose mean mg mb X B F T0 hf hke hroom f c' oc vs qual pm ctv tq T tk (N _ h1).1 h2' h3 h4 hz) H hw hlen ?_
  intro h' t' u st
  exact k _ _ _ ⟨F.ns.keeps st, fun b o e => st b o (F.keep b o e), F.above⟩ fun p hp => ⟨st _ _ (N p hp).1, (N p hp).2⟩
/-- the table is as it was, or the code in it is new -/
noncomputable def NewTab (g : Heap) (line col : Nat) (t₀ tb : Array Value) : Prop := tb = t₀ ∨ ∃ c' : Addr, tb = #[rawInt line, rawInt col, .ref c'] ∧ g.get? c' = none
/-- the state of the two loops of the writer -/
inductive JO (g : Heap) (t82 t65 : Array Value) (zss : List (List Str)) (i : Nat) : (Str → Option Value) → List (Addr × Obj) → Prop
  | mk {m : Str → Option Value} (ha : Addr) (hits tb : Array Value) (nh : Nat) (rest : List (Addr × Obj)) : m "headers" = some (.ref ha) → TabN g 57 50 qualJ rest tb → NewTab g 57 50 t82 tb → @LT.lt Nat _ 82 ha → (∀ p ∈ rest, 82 < p.1) → (∀ p ∈ rest, p.1 ≠ ha) → StrsAre hits.toList (headsOf (zss.take i)) →
    JO g t82 t65 zss i m ((ha, listOf hits nh) :: (82, tabObj tb) :: (65, tabObj t65) :: rest)
inductive JI (g : Heap) (t82 t65 : Array Value) (ha I : Addr) (ho io : Obj) (zs : List Str) (i : Nat) : (Str → Option Value) → List (Addr × Obj) → Prop
  | mk {m : Str → Option Value} (aa : Addr) (aits tb : Array Value) (na : Nat) (rest : List (Addr × Obj)) : m "attr" = some (.ref aa) → m "headers" = some (.ref ha) → TabN g 57 50 qualJ rest tb → NewTab g 57 50 t82 tb →
    @LT.lt Nat _ 82 aa → @LT.lt Nat _ 82 I → @LT.lt Nat _ 82 ha → @Ne Nat aa I → @Ne Nat aa ha → @Ne Nat I ha → (∀ p ∈ rest, 82 < p.1) → (∀ p ∈ rest, p.1 ≠ aa) → (∀ p ∈ rest, p.1 ≠ I) → (∀ p ∈ rest, p.1 ≠ ha) → StrsAre aits.toList (zs.take i) →
    JI g t82 t65 ha I ho io zs i m ((aa, listOf aits na) :: (I, io) :: (ha, ho) :: (82, tabObj tb) :: (65, tabObj t65) :: rest)
theorem joinText_k {gs : List (List Wd)} {T : Str} {P : Str → Prop} (x : JoinText gs T) (k : ∀ zss, All2 RowOk gs zss → weight (headsOf zss) + (headsOf zss).length * 64 ≤ 16777216 → (headsOf zss).length ≤ 100000 → P (PySem.Txt.join (Str.ofString ", ") (headsOf zss))) : P T := by
  obtain ⟨zss, h1, h2, h3, rfl⟩ := x
  exact k _ h1 h2 h3
theorem rowsH_k {h : Heap} {l : Addr} {gs : List (List Wd)} {P : Prop} (x : RowsH h (.ref l) gs) (k : ∀ its n, h.get? l = some (listOf its n) → All2 (RowH h) its.toList gs → P) : P := by
  obtain ⟨l', its, n, e, _, hg, r⟩ := x
  cases e
  exact k its n hg r
theorem row_turn {g : Heap} {its : Array Value} {gs : List (List Wd)} {zss : List (List Str)} {P : Value → Prop} {i : Nat} {v : Value} (h : All2 (RowH g) its.toList gs) (z : All2 RowOk gs zss) (hi : its[i]? = some v)
    (k : ∀ ws pl pits np zs, g.IsList pl pits → All2 (ItemH g) pits.toList ws → zss[i]? = some zs → All2 Attr ws zs → weight zs + zs.length * 64 ≤ 16777216 → zs.length ≤ 100000 → pits.size = zs.length → g.get? pl = some (listOf pits np) → P (.ref pl)) : P v := by
  obtain ⟨ws, hws, pl, pits, np, rfl, hpl, hpg, hits'⟩ := h.get i v (by rw [Array.getElem?_toList]; exact hi)
  obtain ⟨zs, hzs, hA, hzw, hzl⟩ := z.get i ws hws
  have e1 := hits'.len
  have e2 := hA.len
  rw [Array.length_toList] at e1
  exact k ws pl pits np zs ⟨_, hpg, rfl, _, rfl⟩ hits' hzs hA hzw hzl (by lia) hpg
theorem item_turn {g : Heap} {its : Array Value} {ws : List Wd} {zs : List Str} {P : Value → Value → Prop} {kk : Nat} {v a b : Value} (h : All2 (ItemH g) its.toList ws) (z : All2 Attr ws zs) (hk : its[kk]? = some v) (ea : partAt g 0 v = a) (eb : partAt g 1 v = b)
    (alone : ∀ k t, zs[kk]? = some k → P (.str k t) .none)
    (bare : ∀ k t v u, FullOk v.cps → v.length ≤ 100000 → k.length ≤ 100000 → zs[kk]? = some (Str.empty ++ k ++ Str.ofString "=" ++ v) → P (.str k t) (.str v u))
    (quo : ∀ k t v u out, FullNo v.cps → v.length ≤ 100000 → k.length ≤ 100000 → SubRun CJE v.cps [92] 0 out → weight out ≤ 1000000 → out.length ≤ 100000 → (PySem.Txt.join (Str.ofString "") out).length ≤ 1000000 →
      zs[kk]? = some (Str.empty ++ k ++ Str.ofString "=" ++ (Str.ofString "\"" ++ PySem.Txt.join ⟨#[]⟩ out ++ Str.ofString "\"")) → P (.str k t) (.str v u)) : P a b := by
  obtain ⟨⟨wk, wv⟩, hw, a', ta, v2, rfl, ha82, hag, hv⟩ := h.get kk v (by rw [Array.getElem?_toList]; exact hk)
  obtain ⟨y, hy, hAttr⟩ := z.get kk _ hw
  obtain ⟨p0, p1⟩ := partAt_of hag
  rw [p0] at ea
  rw [p1] at eb
  subst ea eb
  cases hAttr with
  | alone =>
    cases hv
    exact alone _ _ hy
  | bare f1 f2 f3 =>
    obtain ⟨t2, rfl⟩ := hv
    exact bare _ _ _ _ f1 f2 f3 hy
  | quo f1 f2 f3 f4 f5 f6 f7 =>
    obtain ⟨t2, rfl⟩ := hv
    exact quo _ _ _ _ _ f1 f2 f3 f4 f5 f6 f7 hy
theorem item_parts {g : Heap} {its : Array Value} {ws : List Wd} (h : All2 (ItemH g) its.toList ws) (i : Nat) (v : Value) (hi : its[i]? = some v) : ∃ T, v = .ref T ∧ g.IsTuple T #[partAt g 0 v, partAt g 1 v] := by
  obtain ⟨w', hw', a, ta, v2, rfl, ha82, hag, hv'⟩ := h.get i v (by rw [Array.getElem?_toList]; exact hi)
  obtain ⟨p0, p1⟩ := partAt_of hag
  rw [p0, p1]
  exact ⟨a, rfl, _, hag, rfl, _, rfl⟩

theorem fr_two {h₀ h : Heap} {L : Addr} {m : Str → Option Value} {x y : Str} {a b : Value} (F : Fr h₀ L h (fun n => if n = x then some a else m n)) (h1 : m y = some b) : Fr h₀ L h (fun n => if n = x then some a else if n = y then some b else m n) := by
  have e : (fun n => if n = x then some a else m n) = (fun n => if n = x then some a else if n = y then some b else m n) := by
    funext n
    by_cases q1 : n = x
    · rw [if_pos q1, if_pos q1]
    · rw [if_neg q1, if_neg q1]
      by_cases q2 : n = y
      · rw [if_pos q2, q2, h1]
      · rw [if_neg q2]
  exact e ▸ F
theorem fr_both {h₀ h : Heap} {L : Addr} {m : Str → Option Value} {x1 x2 y z : Str} {a1 a2 b c : Value} (F : Fr h₀ L h (fun n => if n = x1 then some a1 else if n = x2 then some a2 else m n)) (h1 : m y = some b) (h2 : m z = some c) :
    Fr h₀ L h (fun n => if n = x1 then some a1 else if n = x2 then some a2 else if n = y then some b else if n = z then some c else m n) := by
  have e : (fun n => if n = x1 then some a1 else if n = x2 then some a2 else m n) = (fun n => if n = x1 then some a1 else if n = x2 then some a2 else if n = y then some b else if n = z then some c else m n) := by
    funext n
    by_cases q1 : n = x1
    · rw [if_pos q1, if_pos q1]
    · rw [if_neg q1, if_neg q1]
      by_cases q0 : n = x2
      · rw [if_pos q0, if_pos q0]
      · rw [if_neg q0, if_neg q0]
        by_cases q2 : n = y
        · rw [if_pos q2, q2, h1]
        · rw [if_neg q2]
          by_cases q3 : n = z
          · rw [if_pos q3, q3, h2]
          · rw [if_neg q3]
  exact e ▸ F
section
variable {prog : Program} {w : World} {A : Around} {E : Value → Shared → Prop} {s : Shared} {g h₀ h : Heap} {L ha I I2 aa : Addr} {m m₂ : Str → Option Value} {news rest : List (Addr × Obj)} {ho io io2 : Obj} {t82 t65 tb tb' aits hits : Array Value} {na nh tk i : Nat} {zs ys : List Str} {zss : List (List Str)} {y x : Str} {t tx : Tok}
theorem join_its {its : Array Value} {n : Nat} {Q : Value → Shared → Prop} (N : News h₀ L s.heap news) (hm : (ha, listOf its n) ∈ news) (hS : StrsAre its.toList ys) (hsep : x.length ≤ 64) (hok : weight ys + ys.length * 64 ≤ 16777216) (k : ∀ t' k, Q (.str (PySem.Txt.join x ys) t') { s with toks := k }) :
    wpAny (model prog w) A (call (.builtin "str.join") [.str x tx, .ref ha]) Q E s :=
  join_listC ⟨_, (N _ hm).1, rfl, _, rfl⟩ hS hsep hok k
theorem ji_turn {Q : Flow → Shared → Prop} (ex : List (Addr × Obj)) (F : Fr g L h m₂) (N : News g L h news)
    (hsub : ∀ p ∈ (I2, io2) :: (aa, listOf (aits.push (.str y t)) (na + 1)) :: (I, io) :: (ha, ho) :: (82, tabObj tb') :: (65, tabObj t65) :: (ex ++ rest), p ∈ news)
    (hm1 : m₂ "attr" = some (.ref aa)) (hm2 : m₂ "headers" = some (.ref ha)) (hT : TabN g 57 50 qualJ (ex ++ rest) tb') (hNT : NewTab g 57 50 t82 tb')
    (o1 : @LT.lt Nat _ 82 aa) (o2 : @LT.lt Nat _ 82 I) (o3 : @LT.lt Nat _ 82 ha) (o4 : @Ne Nat aa I) (o5 : @Ne Nat aa ha) (o6 : @Ne Nat I ha) (r1 : ∀ p ∈ rest, 82 < p.1) (r2 : ∀ p ∈ rest, p.1 ≠ aa) (r3 : ∀ p ∈ rest, p.1 ≠ I) (r4 : ∀ p ∈ rest, p.1 ≠ ha)
    (q1 : @LT.lt Nat _ 82 I2) (q2 : @Ne Nat aa I2) (q3 : @Ne Nat I I2) (q4 : @Ne Nat ha I2) (r5 : ∀ p ∈ rest, p.1 ≠ I2)
    (hex : ∀ p ∈ ex, 82 < p.1 ∧ p.1 ≠ aa ∧ p.1 ≠ I ∧ p.1 ≠ ha ∧ p.1 ≠ I2) (hS : StrsAre aits.toList (zs.take i)) (hy : zs[i]? = some y) :
    TurnEnd g L I2 io2 (JI g t82 t65 ha I ho io zs (i + 1)) s Q .next { s with heap := h, toks := tk } := by
  have all : ∀ (P : Addr × Obj → Prop), (∀ p ∈ ex, P p) → (∀ p ∈ rest, P p) → ∀ p ∈ ex ++ rest, P p := fun P a b p hp => (List.mem_append.mp hp).elim (a p) (b p)
  refine turn_end ((aa, listOf (aits.push (.str y t)) (na + 1)) :: (I, io) :: (ha, ho) :: (82, tabObj tb') :: (65, tabObj t65) :: (ex ++ rest)) F N (hsub _ (.head _)) (fun p hp => hsub p (.tail _ hp)) ?_
    ⟨aa, _, tb', na + 1, _, hm1, hm2, hT, hNT, o1, o2, o3, o4, o5, o6, all _ (fun p hp => (hex p hp).1) r1, all _ (fun p hp => (hex p hp).2.1) r2, all _ (fun p hp => (hex p hp).2.2.1) r3, all _ (fun p hp => (hex p hp).2.2.2.1) r4, ?_⟩
  · intro p hp
    have n1 : @Ne Nat 82 I2 := by lia
    have n2 : @Ne Nat 65 I2 := by lia
    rcases List.mem_cons.mp hp with rfl | hp
    · exact q2
    rcases List.mem_cons.mp hp with rfl | hp
    · exact q3
    rcases List.mem_cons.mp hp with rfl | hp
    · exact q4
    rcases List.mem_cons.mp hp with rfl | hp
    · exact n1
    rcases List.mem_cons.mp hp with rfl | hp
    · exact n2
    exact all _ (fun p hp => (hex p hp).2.2.2.2) r5 p hp
  · rw [Array.toList_push, take_snoc zs i y hy]
    exact StrsAre.snoc y t hS
theorem ji_nest {Q : Flow → Shared → Prop} {f c' : Addr} {fo oc : Obj} {vs : Array Value} {tq : Tok} (F : Fr g L h m₂) (N : News g L h ((f, fo) :: (c', oc) :: news))
    (d1 : oc.data = .fields vs) (d2 : vs[1]? = some (.str qualJ tq)) (lc : @LT.lt Nat _ aa c' ∧ @LT.lt Nat _ I c' ∧ @LT.lt Nat _ ha c' ∧ @LT.lt Nat _ I2 c')
    (hsub : ∀ p ∈ (I2, io2) :: (aa, listOf (aits.push (.str y t)) (na + 1)) :: (I, io) :: (ha, ho) :: (82, tabObj (#[] ++ #[rawInt 57, rawInt 50, .ref c'])) :: (65, tabObj t65) :: rest, p ∈ news)
    (hm1 : m₂ "attr" = some (.ref aa)) (hm2 : m₂ "headers" = some (.ref ha))
    (o1 : @LT.lt Nat _ 82 aa) (o2 : @LT.lt Nat _ 82 I) (o3 : @LT.lt Nat _ 82 ha) (o4 : @Ne Nat aa I) (o5 : @Ne Nat aa ha) (o6 : @Ne Nat I ha) (r1 : ∀ p ∈ rest, 82 < p.1) (r2 : ∀ p ∈ rest, p.1 ≠ aa) (r3 : ∀ p ∈ rest, p.1 ≠ I) (r4 : ∀ p ∈ rest, p.1 ≠ ha)
    (q1 : @LT.lt Nat _ 82 I2) (q2 : @Ne Nat aa I2) (q3 : @Ne Nat I I2) (q4 : @Ne Nat ha I2) (r5 : ∀ p ∈ rest, p.1 ≠ I2)
    (hS : StrsAre aits.toList (zs.take i)) (hy : zs[i]? = some y) :
    TurnEnd g L I2 io2 (JI g t82 t65 ha I ho io zs (i + 1)) s Q .next { s with heap := h, toks := tk } := by
  obtain ⟨c1, c2, c3, c4⟩ := lc
  have n0 : @LT.lt Nat _ 82 c' := by lia
  have n1 : @Ne Nat c' aa := by lia
  have n2 : @Ne Nat c' I := by lia
  have n3 : @Ne Nat c' ha := by lia
  have n4 : @Ne Nat c' I2 := by lia
  refine ji_turn (aits := aits) (t := t) (na := na) (tb' := #[] ++ #[rawInt 57, rawInt 50, .ref c']) [(c', oc)] F N (fun p hp => ?_) hm1 hm2 (.inr ⟨c', oc, vs, tq, rfl, n0, .inr (.head _), d1, d2⟩) (.inr ⟨c', rfl, (N _ (.tail _ (.head _))).2.2⟩) o1 o2 o3 o4 o5 o6 r1 r2 r3 r4 q1 q2 q3 q4 r5 (fun p hp => by rw [List.mem_singleton.mp hp]; exact ⟨n0, n1, n2, n3, n4⟩) hS hy
  simp only [List.mem_cons, List.singleton_append] at hp ⊢
  rcases hp with q | q | q | q | q | q | q | q
  · exact .inr (.inr (hsub p (q ▸ .head _)))
  · exact .inr (.inr (hsub p (q ▸ .tail _ (.head _))))
  · exact .inr (.inr (hsub p (q ▸ .tail _ (.tail _ (.head _)))))
  · exact .inr (.inr (hsub p (q ▸ .tail _ (.tail _ (.tail _ (.head _))))))
  · exact .inr (.inr (hsub p (q ▸ .tail _ (.tail _ (.tail _ (.tail _ (.head _)))))))
  · exact .inr (.inr (hsub p (q ▸ .tail _ (.tail _ (.tail _ (.tail _ (.tail _ (.head _))))))))
  · exact .inr (.inl q)
  · exact .inr (.inr (hsub p (.tail _ (.tail _ (.tail _ (.tail _ (.tail _ (.tail _ q))))))))
/-- the end of a row -/
theorem jo_turn {Q : Flow → Shared → Prop} {hits' : Array Value} {nh' : Nat} (F : Fr g L h m₂) (N : News g L h news)
    (hsub : ∀ p ∈ (I, io) :: (ha, listOf hits' nh') :: (82, tabObj tb) :: (65, tabObj t65) :: rest, p ∈ news) (hm : m₂ "headers" = some (.ref ha)) (hT : TabN g 57 50 qualJ rest tb) (hNT : NewTab g 57 50 t82 tb)
    (o1 : @LT.lt Nat _ 82 ha) (o2 : @LT.lt Nat _ 82 I) (o3 : @Ne Nat I ha) (r1 : ∀ p ∈ rest, 82 < p.1) (r2 : ∀ p ∈ rest, p.1 ≠ ha) (r3 : ∀ p ∈ rest, p.1 ≠ I) (hS : StrsAre hits'.toList (headsOf (zss.take (i + 1)))) :
    TurnEnd g L I io (JO g t82 t65 zss (i + 1)) s Q .next { s with heap := h, toks := tk } := by
  refine turn_end ((ha, listOf hits' nh') :: (82, tabObj tb) :: (65, tabObj t65) :: rest) F N (hsub _ (.head _)) (fun p hp => hsub p (.tail _ hp)) ?_ ⟨ha, hits', tb, nh', rest, hm, hT, hNT, o1, r1, r2, hS⟩
  intro p hp
  have n0 : @Ne Nat ha I := by lia
  have n1 : @Ne Nat 82 I := by lia
  have n2 : @Ne Nat 65 I := by lia
  rcases List.mem_cons.mp hp with rfl | hp
  · exact n0
  rcases List.mem_cons.mp hp with rfl | hp
  · exact n1
  rcases List.mem_cons.mp hp with rfl | hp
  · exact n2
  exact r3 p hp
theorem heads_more (hz : zss[i]? = some zs) (he : aits.isEmpty = false) (hA : StrsAre aits.toList zs) (hS : StrsAre hits.toList (headsOf (zss.take i))) : StrsAre (hits.push (.str (PySem.Txt.join (Str.ofString "; ") zs) t)).toList (headsOf (zss.take (i + 1))) := by
  rw [take_snoc zss i zs hz, headsOf_snoc, Array.toList_push]
  have : zs.isEmpty = false := by
    cases zs with
    | nil =>
      have h1 := StrsAre.len hA
      rw [Array.length_toList] at h1
      rw [Array.isEmpty, show aits.size = 0 from h1] at he
      exact absurd he (by decide)
    | cons a b => rfl
  rw [this]
  exact StrsAre.snoc _ t hS
theorem heads_same (hz : zss[i]? = some zs) (he : aits.isEmpty = true) (hA : StrsAre aits.toList zs) (hS : StrsAre hits.toList (headsOf (zss.take i))) : StrsAre hits.toList (headsOf (zss.take (i + 1))) := by
  rw [take_snoc zss i zs hz, headsOf_snoc]
  have : zs = [] := by
    have h1 := StrsAre.len hA
    have h2 : aits.size = 0 := of_decide_eq_true he
    rw [Array.length_toList, h2] at h1
    exact List.eq_nil_of_length_eq_zero h1.symm
  subst this
  simpa using hS
theorem heads_len (zss : List (List Str)) (i : Nat) : (headsOf (zss.take i)).length ≤ (headsOf zss).length := by
  have := headsOf_le (zss.take i) (zss.drop i)
  rwa [List.take_append_drop] at this
end

theorem but_end82 {s h g : Heap} {L L₀ : Addr} {h₀ : Heap} {m : Str → Option Value} {t65 t82 : Array Value} {news : List (Addr × Obj)} (N : News h₀ L₀ s [(82, tabObj t82), (65, tabObj t65)])
    (kp : ∀ b o, b ∉ List.map (·.1) [((82 : Addr), tabObj t82), ((65 : Addr), tabObj t65)] → s.get? b = some o → g.get? b = some o) (F : Fr g L h m) (Nz : News g L h news) (h65 : (65, tabObj t65) ∈ news) : But [82] s h := by
  intro b o hb e
  by_cases q : b = 65
  · subst q
    rw [(N _ (.tail _ (.head _))).1] at e
    injection e with e
    subst e
    exact (Nz _ h65).1
  · refine F.keep _ _ (kp _ _ (fun hm => ?_) e)
    simp only [List.map_cons, List.map_nil, List.mem_cons, List.not_mem_nil, or_false] at hm
    rcases hm with r | r
    · exact hb (by rw [r]; exact .head _)
    · exact q r
theorem newTab_back {s g : Heap} {t82 t65 t₀ tb : Array Value} {line col : Nat} {qual : Str} {rest : List (Addr × Obj)} (kp : ∀ b o, b ∉ List.map (·.1) [((82 : Addr), tabObj t82), ((65 : Addr), tabObj t65)] → s.get? b = some o → g.get? b = some o) (hT : TabN g line col qual rest tb) (x : NewTab g line col t₀ tb) : NewTab s line col t₀ tb := by
  rcases x with x | ⟨c', e, n⟩
  · exact .inl x
  · refine .inr ⟨c', e, ?_⟩
    cases q : s.get? c' with
    | none => rfl
    | some o =>
      have hc : 82 < c' := by
        rcases hT with rfl | ⟨c2, oc, vs, t, e2, h1, _⟩
        · cases e
        · rw [e] at e2
          injection e2 with e2
          injection e2 with _ e2
          injection e2 with _ e2
          injection e2 with e2 _
          injection e2 with e2
          rw [e2]; exact h1
      have := kp c' o (fun hm => by
        have hc' : @LT.lt Nat _ 82 c' := hc
        simp only [List.map_cons, List.map_nil, List.mem_cons, List.not_mem_nil, or_false] at hm
        rcases hm with r | r
        · rw [r] at hc'; exact absurd hc' (by decide)
        · rw [r] at hc'; exact absurd hc' (by decide)) q
      rw [n] at this; cases this

end
section
local macro_rules | `(tactic| k_ne) => `(tactic| (apply neN; (try dsimp only); first | with_reducible first | assumption | (apply Ne.symm; assumption) | (apply Nat.ne_of_lt; assumption) | (apply Nat.ne_of_gt; assumption) | lia))
local macro_rules | `(tactic| k_all) => `(tactic| first | with_reducible assumption | exact List.forall_mem_nil _ | (apply List.forall_mem_cons.mpr; constructor; k_ne; k_all))
local macro_rules | `(tactic| walk_at "fin") => `(tactic| (k_whole; intros; k_sweep))
local macro_rules | `(tactic| walk_at "call builtin:list.append") => `(tactic| (k_here; k_dflt ((with_reducible apply append_y); k_asm; k_asm; k_upd; first | assumption | (simp only [Array.size_push]; lia)); walk_at "fin"))
local macro_rules | `(tactic| walk_at "pat_here") => `(tactic| ((with_reducible apply pat_here); k_asm; walk_at "pat_at"))
local macro_rules | `(tactic| walk_at "subs") => `(tactic| first | exact List.forall_mem_nil _ | (intro p hp; assumption) | (apply List.forall_mem_cons.mpr; constructor; k_mem; walk_at "subs") | (intro p hp; repeat (first | exact hp | apply List.mem_cons_of_mem)))
local macro_rules | `(tactic| walk_at "le") => `(tactic| (apply le_line; simp only [PySem.Str.length_append, lens]; lia))
local macro_rules | `(tactic| walk_at "joinParts") => `(tactic| (k_here; k_dflt (refine joinParts_nil ?_ (by walk_at "le"))))
local macro_rules | `(tactic| walk_at "convS str") => `(tactic| (refine SB.convS_str ?_ (by first | walk_at "le" | size_fits); intros))
section
local macro_rules | `(tactic| walk_at "pat_at") => `(tactic| ((first | apply pat_T | apply pat_Q | apply pat_V | apply pat_W | apply pat_E | apply pat_JT | apply pat_JE); assumption))
local macro_rules | `(tactic| walk_at "getMethod ref") => `(tactic| (k_here; k_dflt ((with_reducible first | apply gm_search | apply gm_sub | apply gm_subn | apply gm_fullmatch); walk_at "pat_here")))
local macro_rules | `(tactic| walk_at "lt2") => `(tactic| (k_whole; intros; rename_i l1 l2; (try k_lt l1); k_lt2 l2; k_sweep))
local macro_rules | `(tactic| walk_at "code") => `(tactic| first | (apply Or.inr; k_mem) | ((with_reducible rename Hid _ => hO); refine Or.imp_right ?_ hO; intro hq; repeat (first | exact hq | apply List.mem_cons_of_mem)))
local macro_rules | `(tactic| walk_at "call builtin:re.Pattern.sub") => `(tactic| (k_here; k_dflt ((first | ((with_reducible apply subS_K); exact rfl) | ((with_reducible apply subJ_K); exact rfl)); exact rfl; (iterate 5 k_asm); (iterate 2 exact rfl); assumption; k_mem; walk_at "code"; (iterate 6 assumption); walk_at "fin")))
local macro_rules | `(tactic| walk_at "truthy ref") => `(tactic| (k_here; k_dflt (first | ((with_reducible apply truthy_match); walk_at "mat_at") | ((with_reducible apply truthy_its); k_asm; k_mem; first | assumption | (simp only [Array.size_push]; lia))); intros))
local macro_rules | `(tactic| walk_at "all_lt") => `(tactic| ((with_reducible rename _ < _ ∧ _ => lQ); (repeat (first | exact lQ | exact lQ.2 | (replace lQ := lQ.2)))))
section
theorem calm_C6 : True := by
  w_top off
  trivial
local macro_rules | `(tactic| walk_at "call builtin:re.Pattern.search") => `(tactic| (k_here; k_dflt (first | ((with_reducible apply search_K); k_asm; k_asm; walk_at "pat_at"; assumption; with_reducible assumption; walk_at "lt2") | ((with_reducible apply nosearch_K); k_asm; walk_at "pat_at"; assumption; with_reducible assumption))))
local macro_rules | `(tactic| walk_at "call builtin:re.Match.group") => `(tactic| (k_here; k_dflt ((with_reducible apply group_Ky); walk_at "mat_at"; assumption; with_reducible assumption); intros))
local macro_rules | `(tactic| walk_at "call ref") => `(tactic| (k_here; k_dflt ((with_reducible apply unm_K); exact rfl; (iterate 5 k_asm); (iterate 2 exact rfl); assumption; k_mem; k_mem; assumption; assumption; with_reducible assumption; exact rfl; walk_at "fin")))
local macro_rules | `(tactic| walk_at "call builtin:re.Pattern.subn") => `(tactic| (k_here; k_dflt ((with_reducible apply subn_K); k_asm; k_asm; walk_at "pat_at"; (iterate 6 assumption); k_whole; walk_at "lt")))
local macro_rules | `(tactic| walk_at "truthy str") => `(tactic| ((first | ((with_reducible apply truthy_empty); assumption) | ((with_reducible apply truthy_full); assumption; assumption)); intros))
local macro_rules | `(tactic| walk_at "call builtin:str.lstrip") => `(tactic| ((with_reducible apply lstrip_y); assumption; with_reducible assumption; intros))
local macro_rules | `(tactic| walk_at "call builtin:str.rstrip") => `(tactic| ((with_reducible apply rstrip_y); assumption; with_reducible assumption; intros))
local macro_rules | `(tactic| walk_at "call builtin:str.startswith") => `(tactic| ((with_reducible apply starts_y); with_reducible assumption))
local macro_rules | `(tactic| walk_at "exec While") => `(tactic| apply halt)
theorem split_go : ∀ (w : World) (dp un : Nat) (gd : Option (List Code)) (A₀ : Around) (base h₀ : Heap) (outer : List Env) (env : Env) (L : Addr) (m : Str → Option Value) (s : Shared) (p : Program) (loose : List Str) (mean : ExcName → Option Value) (mg mb : Str → Option Value),
    (hd.heap_39 w.params).In h₀ → Below A₀ base outer h₀ → Fr h₀ L s.heap m → Top p loose mean mg mb h₀ → env.frame = some L → env.scope.kind = .function → CodeHd h₀ 69 65 → dp + 3 < recursionLimit →
    ∀ (t65 t82 : Array Value) (l : Addr) (n0 : Nat) (x : Str) (tx : Tok) (R : Result → Shared → Prop) (fin : List (List Wd)), News h₀ L s.heap [(82, tabObj t82), (65, tabObj t65)] → s.heap.get? l = some (listOf #[.str x tx] n0) → l ∉ List.map (·.1) [(82, tabObj t82), (65, tabObj t65)] →
    TabH s.heap 26 49 qualS t65 → x.cps.size ≤ 100000 → Run x [] [] fin →
    (∀ h' t' v tb, But [65] s.heap h' → h'.get? 65 = some (tabObj tb) → TabH h' 26 49 qualS tb → RowsH h' v fin → R (.ok (.ret v)) { s with heap := h', toks := t' }) →
    codeAny (model PySem.Challenge.rw_kl0472_01.row.prog w) ⟨none, dp, some (env :: outer), gd, un⟩ (.call (.ref 70) ⟨[.ref l], []⟩) R s := by
  k_fill
  intro w dp un gd A₀ base h₀ outer env L m s p loose mean mg mb X B F T0 hf hke hcd hroom t65 t82 l n0 x tx R fin N hl hlN htab hz hrun k
  have hroom0 : dp < recursionLimit := by lia
  have hroom1 : dp + 1 < recursionLimit := by lia
  k_dflt (refine' code_mine (K := hd.heap_39 w.params) ?k1 ?k2 ?k3 ?k4 ?k5 ?kA ?kF ?kK ?k6 ?k7 ?k8 ?k9 ?kB ?_ ?c2 ?c3 ?c4 ?c5; (case kA => exact rfl); (case kF => exact hf); (case kK => exact hke); (case k1 => k_asm); (case k2 => k_asm); (case k3 => k_asm); (case k4 => k_asm); (case k5 => k_asm); (case k6 => k_is); (case k7 => k_is); (case k8 => exact hroom0); (case k9 => exact BindsTo.of_eq rfl); (case c5 => decide); (case kB => exact locs rfl); (case c2 => exact rfl); (case c3 => exact rfl); (case c4 => exact rfl); k_whole; intro g' L' h' kp st F' N' B' X' T'; (try dsimp only); (try k_fold))
  have kL : g'.IsList l #[.str x tx] := ⟨_, kp _ _ hlN hl, rfl, _, rfl⟩
  have kC : CodeHd g' 69 65 := hcd.keeps st
  have kT : TabN g' 26 49 qualS [] t65 := TabN.ofH htab kp (by intro p hp; rcases List.mem_cons.mp hp with rfl | hp; exact Nat.le_refl _; rcases List.mem_cons.mp hp with rfl | hp; exact (by decide : 65 ≤ 82); cases hp)
  k_steps
  refine For_invV g' (x := Str.ofString "text") rfl rfl ?_
  walk1
  refine iter_one (JF g' t82 fin) rfl kL (by assumption) (by assumption) ?turn ?done
  case done =>
    intro m' nx h tk jf Fz Nz
    cases jf with
    | mk ra rits tb nr rest hm3 hT r1 o2 A2 =>
    have Fz' := fr_three Fz hm3 hm3 hm3
    k_steps
    refine k h _ (.ref ra) tb (but_end N kp Fz Nz (.tail _ (.head _))) (Nz _ (.tail _ (.tail _ (.head _)))).1 (hT.heap Fz Nz fun p hp => .tail _ (.tail _ (.tail _ hp))) ?_
    exact ⟨ra, rits, nr, rfl, o2, (Nz _ (.head _)).1, forall2_mono (fun _ _ q => q.heap Nz r1 fun p hp => .tail _ (.tail _ (.tail _ hp))) A2⟩
  case turn =>
    intro h tk I io lI F2 N2
    k_lt lI
    k_steps
    refine halted ?_
    (with_reducible rename News g' _ _ _ => kN0)
    refine while_JW (t82 := t82) (I := I) (io := io) (fin := fin) (n₀ := x.cps.size) (by assumption) (news_swap kN0) ?init ?stop ?step
    case init =>
      exact ⟨x, tx, _, _, #[], #[], t65, 0, 0, [], [], [], hz, rfl, rfl, rfl, kT, (fun _ q => nomatch q), (fun _ q => nomatch q), (fun _ q => nomatch q), (fun _ q => nomatch q), ltN (by lia), ltN (by lia), ltN (by lia), neN (by lia), neN (by lia), neN (by lia), .nil, .nil, by simp only [List.length_nil]; lia, hrun⟩
    case stop =>
      clear hrun hz kT hl hlN htab k kp
      intro h₁ tk₁ m₁ x tx pa ra pits rits tb np nr rest ws gs hfin h0 hT r1 r2 r3 r4 A1 A2 N₁ hp100 hr100 F₁ e65 e82 o1 o2 o3 o4 o5 o6
      k_steps
      · exact jf_end0 hfin (by assumption) (by assumption) rfl hT r1 r4 o1 o2 o3 o4 o5 A1 A2 (by assumption)
      · exact jf_end hfin (by assumption) (by assumption) rfl hT r1 r4 o1 o2 o3 o4 o5 A1 A2 (by assumption)
    case step =>
      clear hrun hz kT hl hlN htab k kp F2 N2 kL
      intro h₁ tk₁ m₁ x tx pa ra pits rits tb np nr rest ws gs Q' hz lz hpos H hT r1 r2 r3 r4 A1 A2 N₁ hp100 hr100 F₁ e65 e82 o1 o2 o3 o4 o5 o6
      refine run_turn H hpos ?alone ?bare ?quo ?comma ?junk
      case alone =>
        intro name y b c d f1 f2 f3 f4 f5 f6 hlt H'
        have f1b := f1.2.2.1
        iterate 21 (have pad := True.intro; clear pad)
        k_steps
        exact jw_word [] (by assumption) (by assumption) (by walk_at "subs") rfl rfl rfl hT (fun _ q => nomatch q) r1 r2 r3 r4 o1 o2 o3 o4 o5 o6 A1 A2 lz hlt ⟨by lia, by lia, by lia⟩ (by exact rfl) H'
      case bare =>
        intro name x1 raw y b c d b2 c2 d2 f1 f2 f3 f4 f5 f6 f7 f8 f9 f10 hlt H'
        have f1b := f1.2.2.1
        have f6b := f6.2.2.1
        iterate 11 (have pad := True.intro; clear pad)
        k_steps
        exact jw_word [] (by assumption) (by assumption) (by walk_at "subs") rfl rfl rfl hT (fun _ q => nomatch q) r1 r2 r3 r4 o1 o2 o3 o4 o5 o6 A1 A2 lz hlt ⟨by lia, by lia, by lia⟩ (by exact ⟨_, rfl⟩) H'
      case quo =>
        intro name x1 raw y b c d b2 c2 d2 out f1 f2 f3 f4 f5 f6 f7 f8 f9 f10 f11 hlt H'
        have f1b := f1.2.2.1
        have f5b := f5.2.2.1
        revert N₁
        apply TabN.two hT
        · intro N₁
          iterate 8 (have pad := True.intro; clear pad)
          k_steps
          (with_reducible rename Obj.data _ = Data.fields _ => qd1)
          (with_reducible rename _ = some (Value.str _ _) => qd2)
          exact jw_nest (by assumption) (by assumption) qd1 qd2 ⟨by lia, by lia, by lia⟩ (by walk_at "subs") rfl rfl rfl r1 r2 r3 r4 o1 o2 o3 o4 o5 o6 A1 A2 lz hlt ⟨by lia, by lia, by lia⟩ (by exact ⟨_, rfl⟩) H'
        · intro c' oc vs tq hc1 hc2 hc3 hc4 N₁
          k_steps
          exact jw_word [] (by assumption) (by assumption) (by walk_at "subs") rfl rfl rfl (.inr ⟨c', oc, vs, tq, rfl, hc1, hc2, hc3, hc4⟩) (fun _ q => nomatch q) r1 r2 r3 r4 o1 o2 o3 o4 o5 o6 A1 A2 lz hlt ⟨by lia, by lia, by lia⟩ (by exact ⟨_, rfl⟩) H'
      case comma =>
        intro x1 y f1 f2 f3 f4 f5 hlt H'
        iterate 26 (have pad := True.intro; clear pad)
        k_steps
        · exact jw_comma0 (by assumption) (by assumption) (by with_unfolding_all (first | rfl | (rw [← f5]; rfl))) rfl rfl hT r1 r3 r4 o1 o2 o3 o4 o5 o6 A1 A2 lz hlt ⟨by lia, by lia, by lia, by walk_at "all_lt"⟩ (by assumption) H'
        · exact jw_comma (by assumption) (by assumption) (by with_unfolding_all (first | rfl | (rw [← f5]; rfl))) rfl rfl hT r1 r2 r3 r4 o1 o2 o3 o4 o5 o6 A1 A2 lz hlt ⟨by lia, by lia, by lia, by walk_at "all_lt"⟩ (by assumption) H'
      case junk =>
        intro x1 y n f1 f2 f3 f4 f5 f6 f7 f8 hlt H'
        iterate 22 (have pad := True.intro; clear pad)
        k_steps
        exact jw_junk (by assumption) (by assumption) (by walk_at "subs") rfl rfl rfl hT r1 r2 r3 r4 o1 o2 o3 o4 o5 o6 A1 A2 lz hlt H'

end
section
theorem calm_C7 : True := by
  w_top off
  trivial
local macro_rules | `(tactic| walk_at "call builtin:re.Pattern.fullmatch") => `(tactic| (k_here; k_dflt (first | ((with_reducible apply full_K); k_asm; k_asm; walk_at "pat_at"; assumption; with_reducible assumption; walk_at "lt2") | ((with_reducible apply nofull_K); k_asm; walk_at "pat_at"; assumption; with_reducible assumption))))
local macro_rules | `(tactic| walk_at "exec For") => `(tactic| apply halt)
local macro_rules | `(tactic| walk_at "call builtin:str.join") => `(tactic| (k_here; k_dflt ((with_reducible apply join_its); k_asm; k_mem; assumption; decide; assumption); intros))
local macro_rules | `(tactic| walk_at "binaryOp Mod str str") => `(tactic| (k_here; (with_reducible apply KPc.mod_str); kpc_eq; assumption; k_dflt kpc_run_s; intros))
theorem join_go : ∀ (w : World) (dp un : Nat) (gd : Option (List Code)) (A₀ : Around) (base h₀ : Heap) (outer : List Env) (env : Env) (L : Addr) (m : Str → Option Value) (s : Shared) (p : Program) (loose : List Str) (mean : ExcName → Option Value) (mg mb : Str → Option Value),
    (hd.heap_39 w.params).In h₀ → Below A₀ base outer h₀ → Fr h₀ L s.heap m → Top p loose mean mg mb h₀ → env.frame = some L → env.scope.kind = .function → CodeHd h₀ 86 82 → dp + 3 < recursionLimit →
    ∀ (t65 t82 : Array Value) (l : Addr) (R : Result → Shared → Prop) (gs : List (List Wd)) (T : Str), News h₀ L s.heap [(82, tabObj t82), (65, tabObj t65)] → RowsH s.heap (.ref l) gs →
    TabH s.heap 57 50 qualJ t82 → JoinText gs T →
    (∀ h' t' u tb, But [82] s.heap h' → h'.get? 82 = some (tabObj tb) → TabH h' 57 50 qualJ tb → NewTab s.heap 57 50 t82 tb → R (.ok (.ret (.str T u))) { s with heap := h', toks := t' }) →
    codeAny (model PySem.Challenge.rw_kl0472_01.row.prog w) ⟨none, dp, some (env :: outer), gd, un⟩ (.call (.ref 87) ⟨[.ref l], []⟩) R s := by
  k_fill
  intro w dp un gd A₀ base h₀ outer env L m s p loose mean mg mb X B F T0 hf hke hcd hroom t65 t82 l R gs T N hl htab hjoin k
  have hroom0 : dp < recursionLimit := by lia
  have hroom1 : dp + 1 < recursionLimit := by lia
  revert k
  apply joinText_k hjoin
  intro zss hzss hw1 hw2 k
  k_dflt (refine' code_mine (K := hd.heap_39 w.params) ?k1 ?k2 ?k3 ?k4 ?k5 ?kA ?kF ?kK ?k6 ?k7 ?k8 ?k9 ?kB ?_ ?c2 ?c3 ?c4 ?c5; (case kA => exact rfl); (case kF => exact hf); (case kK => exact hke); (case k1 => k_asm); (case k2 => k_asm); (case k3 => k_asm); (case k4 => k_asm); (case k5 => k_asm); (case k6 => k_is); (case k7 => k_is); (case k8 => exact hroom0); (case k9 => exact BindsTo.of_eq rfl); (case c5 => decide); (case kB => exact locs rfl); (case c2 => exact rfl); (case c3 => exact rfl); (case c4 => exact rfl); k_whole; intro g' L' h' kp st F' N' B' X' T'; (try dsimp only); (try k_fold))
  have kC : CodeHd g' 86 82 := hcd.keeps st
  have kT : TabN g' 57 50 qualJ [] t82 := TabN.ofH htab kp (by intro p hp; rcases List.mem_cons.mp hp with rfl | hp; exact Nat.le_refl _; rcases List.mem_cons.mp hp with rfl | hp; exact (by decide : 65 ≤ 82); cases hp)
  refine rowsH_k (hl.stay (kp_82 kp)) ?_
  intro lits nl hlg hrows
  have kL : g'.IsList l lits := ⟨_, hlg, rfl, _, rfl⟩
  k_steps
  refine halted ?_
  refine for_name (h₀ := g') (l := l) (JO g' t82 t65 zss) rfl rfl rfl kL (by assumption) (by assumption) ?init ?step ?done ?he
  case he => k_steps
  case init =>
    exact ⟨_, #[], t82, 0, [], rfl, kT, .inl rfl, ltN (by lia), (fun _ q => nomatch q), (fun _ q => nomatch q), .nil⟩
  case done =>
    intro h1 tk1 m1 nx F1 N1 jo
    cases jo with
    | mk ha hits tb nh rest hm hT hNT o1 r1 r2 hS =>
    have F1' := fr_three F1 hm hm hm
    have hlen : lits.size = zss.length := by have e1 := hrows.len; have e2 := hzss.len; rw [Array.length_toList] at e1; lia
    rw [hlen, List.take_length] at hS
    k_steps
    refine k h1 _ _ tb (but_end82 N kp F1 N1 (.tail _ (.tail _ (.head _)))) (N1 _ (.tail _ (.head _))).1 (hT.heap F1 N1 fun p hp => .tail _ (.tail _ (.tail _ hp))) (newTab_back kp hT hNT)
  case step =>
    intro i v m1 nx h1 tk1 I io Q1 hi jo hnI hlI F1 N1
    cases jo with
    | mk ha hits tb nh rest hm hT hNT o1 r1 r2 hS =>
    replace F1 := fr_two F1 hm
    revert F1
    apply row_turn hrows hzss hi
    intro ws pl pits np zs kP hits' hzs hA hzw hzl hpz hpg F1
    k_steps
    refine halted ?_
    (with_reducible rename News g' _ _ _ => kN0)
    have o2 : @LT.lt Nat _ 82 I := hlI (82, tabObj t82) (.tail _ (.head _))
    have o9 : @Ne Nat ha I := hnI _ (.head _)
    have hlz : hits.size ≤ 100000 := by
      have e1 := StrsAre.len hS
      have e2 := heads_len zss i
      rw [Array.length_toList] at e1
      lia
    refine for_pair (h₀ := g') (l := pl) (partAt g' 0) (partAt g' 1) (JI g' t82 t65 ha I (listOf hits nh) io zs) rfl rfl rfl rfl kP (item_parts hits') (by assumption) kN0 ?iinit ?istep ?idone ?ihe
    case ihe => k_steps
    case iinit =>
      refine ⟨_, #[], tb, 0, rest, rfl, rfl, hT, hNT, ltN (by lia), o2, o1, neN (by lia), neN (by lia), neN (by lia), r1, ?_, fun p hp => hnI p (.tail _ (.tail _ (.tail _ hp))), r2, .nil⟩
      exact fun p hp => Nat.ne_of_lt (allLt_all (by walk_at "all_lt") p hp)
    case idone =>
      clear k
      intro h2 tk2 m2 nx F2 N2 ji
      cases ji with
      | mk aa aits tb2 na rest2 hm2 hm3 hT2 hNT2 o3 o4 o5 o6 o7 o8 s1 s2 s3 s4 hS2 =>
      rw [hpz, List.take_length] at hS2
      replace F2 := fr_three F2 hm2 hm3 hm3
      have e82 : ∀ p ∈ rest2, p.1 ≠ 82 := fun p hp => neN (by have a2 := ltN (s1 p hp); lia)
      have e65 : ∀ p ∈ rest2, p.1 ≠ 65 := fun p hp => neN (by have a2 := ltN (s1 p hp); lia)
      have haz : aits.size ≤ 1000000 := by
        have e1 := StrsAre.len hS2
        rw [Array.length_toList] at e1
        lia
      k_steps
      · exact jo_turn (by assumption) (by assumption) (by walk_at "subs") rfl hT2 hNT2 o5 o4 o8 s1 s4 s3 (heads_same hzs (by assumption) hS2 hS)
      · exact jo_turn (by assumption) (by assumption) (by walk_at "subs") rfl hT2 hNT2 o5 o4 o8 s1 s4 s3 (heads_more hzs (by assumption) hS2 hS)
    case istep =>
      clear k
      intro kk v a b m2 nx h2 tk2 I2 io2 Q2 hk ea eb ji hnI2 hlI2 F2 N2
      cases ji with
      | mk aa aits tb2 na rest2 hm2 hm3 hT2 hNT2 o3 o4 o5 o6 o7 o8 s1 s2 s3 s4 hS2 =>
      have hkz : kk < pits.size := (Array.getElem?_eq_some_iff.mp hk).1
      replace F2 := fr_both F2 hm2 hm3
      have haz : aits.size ≤ 100000 := by
        have e1 := StrsAre.len hS2
        rw [Array.length_toList, List.length_take] at e1
        lia
      have e82 : ∀ p ∈ rest2, p.1 ≠ 82 := fun p hp => neN (by have a2 := ltN (s1 p hp); lia)
      have e65 : ∀ p ∈ rest2, p.1 ≠ 65 := fun p hp => neN (by have a2 := ltN (s1 p hp); lia)
      have u1 := neN (hnI2 _ (.head _))
      have u2 := neN (hnI2 _ (.tail _ (.head _)))
      have u3 := neN (hnI2 _ (.tail _ (.tail _ (.head _))))
      have u4 : ∀ p ∈ rest2, p.1 ≠ I2 := fun p hp => hnI2 p (.tail _ (.tail _ (.tail _ (.tail _ (.tail _ hp)))))
      have v1 : @Ne Nat I2 aa := Ne.symm u1
      have v2 : @Ne Nat I2 I := Ne.symm u2
      have v3 : @Ne Nat I2 ha := Ne.symm u3
      have u5 : @LT.lt Nat _ 82 I2 := hlI2 (82, _) (.tail _ (.tail _ (.tail _ (.head _))))
      clear hnI2 hlI2
      revert F2
      apply item_turn hits' hA hk ea eb
      · intro wk ta hy F2
        k_steps
        exact ji_turn [] (by assumption) (by assumption) (by walk_at "subs") rfl rfl hT2 hNT2 o3 o4 o5 o6 o7 o8 s1 s2 s3 s4 u5 u1 u2 u3 u4 (fun _ q => nomatch q) hS2 hy
      · intro wk ta v t2 f1 f2 f3 hy F2
        k_steps
        exact ji_turn [] (by assumption) (by assumption) (by walk_at "subs") rfl rfl hT2 hNT2 o3 o4 o5 o6 o7 o8 s1 s2 s3 s4 u5 u1 u2 u3 u4 (fun _ q => nomatch q) hS2 hy
      · intro wk ta v t2 out f1 f2 f3 f4 f5 f6 f7 hy F2
        revert N2 hNT2
        apply TabN.two hT2
        · intro hNT2 N2
          k_steps
          (with_reducible rename Obj.data _ = Data.fields _ => qd1)
          (with_reducible rename _ = some (Value.str _ _) => qd2)
          exact ji_nest (by assumption) (by assumption) qd1 qd2 ⟨by lia, by lia, by lia, by lia⟩ (by walk_at "subs") rfl rfl o3 o4 o5 o6 o7 o8 s1 s2 s3 s4 u5 u1 u2 u3 u4 hS2 hy
        · intro c' oc vs tq hc1 hc2 hc3 hc4 hNT2 N2
          k_steps
          exact ji_turn [] (by assumption) (by assumption) (by walk_at "subs") rfl rfl (.inr ⟨c', oc, vs, tq, rfl, hc1, hc2, hc3, hc4⟩) hNT2 o3 o4 o5 o6 o7 o8 s1 s2 s3 s4 u5 u1 u2 u3 u4 (fun _ q => nomatch q) hS2 hy

end
end
section
open PySem.Builtin PySem.Builtin.ObjectAttr
/-- the three errors' class -/
noncomputable abbrev errMro : List Value := [.type "Exception", .type "BaseException", .type "object"]
theorem err_cls {P : Params} {h : Heap} (X : (hd.heap_39 P).In h) : ∃ nm q bs sub k0 k1 k2 k3 k5, h.get? 112 = some (excClassObj nm q 112 111 bs errMro true [] sub false none none k0 k1 k2 k3 k5 "Exception.__new__") :=
  ⟨_, _, _, _, _, _, _, _, _, X 112 _ rfl⟩
theorem err_ns {P : Params} {h : Heap} (X : (hd.heap_39 P).In h) : h.Ns 111 (h.nsMap 111) := .of_isNs (isNs_of_in X (by kernel_rfl))
theorem ns_some_of {K : Frag} {h : Heap} {N : Addr} {mg : Str → Option Value} {n : Str} {v : Value} (X : K.In h) (G : h.Ns N mg) (e : nsIn K N n = some (some v)) : mg n = some v := by
  obtain ⟨o, es, ep, ho, hd', _, hf⟩ := G
  unfold nsIn at e
  split at e
  · rename_i c d es' n' sl q
    have := X _ _ q
    rw [ho] at this
    cases this
    cases hd'
    split at e
    · rename_i en he
      cases e
      rw [← hf]
      unfold nsFind findBy
      rw [← Array.find?_toList, he]
      rfl
    · split at e <;> cases e
  · cases e
section
variable {P : Params} {h : Heap}
theorem err_init (X : (hd.heap_39 P).In h) : h.nsMap 111 "__init__" = some (.ref 102) := ns_some_of X (err_ns X) (by kernel_rfl)
theorem err_str (X : (hd.heap_39 P).In h) : h.nsMap 111 "__str__" = some (.ref 109) := ns_some_of X (err_ns X) (by kernel_rfl)
theorem err_sa (X : (hd.heap_39 P).In h) : h.nsMap 111 "__setattr__" = none := ns_none_of X (err_ns X) (by kernel_rfl)
theorem err_ga (X : (hd.heap_39 P).In h) : h.nsMap 111 "__getattribute__" = none := ns_none_of X (err_ns X) (by kernel_rfl)
theorem err_gt (X : (hd.heap_39 P).In h) : h.nsMap 111 "__getattr__" = none := ns_none_of X (err_ns X) (by kernel_rfl)
theorem err_msg (X : (hd.heap_39 P).In h) : h.nsMap 111 "msg" = none := ns_none_of X (err_ns X) (by kernel_rfl)
theorem err_file (X : (hd.heap_39 P).In h) : h.nsMap 111 "filename" = none := ns_none_of X (err_ns X) (by kernel_rfl)
theorem err_line (X : (hd.heap_39 P).In h) : h.nsMap 111 "lineno" = none := ns_none_of X (err_ns X) (by kernel_rfl)
end
theorem exc_msg : typeLookup (.type "Exception") "msg" = pure none := by rw [typeLookup_type, builtinLookup_eq_fast]; kernel_rfl
theorem exc_file : typeLookup (.type "Exception") "filename" = pure none := by rw [typeLookup_type, builtinLookup_eq_fast]; kernel_rfl
theorem exc_line : typeLookup (.type "Exception") "lineno" = pure none := by rw [typeLookup_type, builtinLookup_eq_fast]; kernel_rfl
/-- an object that is a dict of names -/
noncomputable def DictIs (o : Obj) (m : Str → Option Value) : Prop := ∃ es ep, o.data = .dict es ep ∧ StrKeys es ∧ UniqKeys es ∧ ∀ n, nsFind es n = m n
section
variable {prog : Program} {w : World} {A : Around} {E : Value → Shared → Prop} {h : Heap} {g : Array GenState} {d : Drawn} {t : Nat} {os : OsState} {nm q : Str} {C N x : Addr} {bs bm : List Value} {sn : List Str} {sub : List Value} {ab : Bool} {col : Option Bool} {dd : Option Addr} {k0 k1 k2 k3 k5 : Option Value} {B newId sa owner : String} {mN : Str → Option Value} {name : Str} {v : Value} {o : Obj}
/-- the first name that is put to an object of a class: its dict is new -/
theorem store_first {Q : Unit → Shared → Prop} (SF : StoreFacts B bm sa owner) (hC : h.get? C = some (excClassObj nm q C N bs bm true sn sub ab col dd k0 k1 k2 k3 k5 newId)) (hn : h.Ns N mN) (hns : mN "__setattr__" = none) (hna : mN name = none) (hB : typeLookup (.type B) name = pure none)
    (hx : h.get? x = some o) (hc : o.cls = .ref C) (hnc : ∀ c, o.data ≠ .cls c) (hdn : o.dict = none)
    (k : ∀ h' tk' od, h'.get? x = some { cls := o.cls, dict := some h.objs.size, data := o.data, slots := o.slots } → h'.get? h.objs.size = some od → DictIs od (fun y => if y = name then some v else none) → (∀ b ob, b ≠ x → h.get? b = some ob → h'.get? b = some ob) → Q () ⟨h', g, d, tk', os⟩) :
    wpAny (model prog w) A (setAttr (.ref x) name v) Q E ⟨h, g, d, t, os⟩ := by
  have f3 := SF.slot.bind (.ref x)
  have hpass := SF.passes (.ref x)
  unfold setAttr callSpecial? specialOf
  repeat (any_goals (first | assumption | (with_reducible refine wpAny_loadPart_at hx ?_; rw [hc]) | (with_reducible refine wpAny_typeLookup_exc hC hn SF.mro SF.slot.lookup ?_; rw [hns]) | wp_step))
  refine codeAny_call_builtin SF.slot.plain SF.entry (wpAny_check_sa SF hC hx hc ?_)
  unfold Builtin.«object.__setattr__»
  repeat (first | rw [refuse_eq] | (rw [refuseLoop_ref, hpass]) | (with_reducible refine wpAny_loadPart_at hx ?_; rw [hc]) | with_reducible refine wpAny_mroOf_exc hC ?_ | (with_reducible refine wpAny_typeLookup_exc hC hn SF.mro hB ?_; rw [hna]) | wp_step)
  rw [hdn, if_neg (by simp [typeHasDict])]
  split
  · rename_i hcd; cases hcd
  split
  · rename_i c hcd; exact absurd hcd (hnc c)
  have hx₁ : (h.push { cls := .type "dict", data := .dict #[] }).get? x = some o := Heap.get?_push_of_some _ hx
  have hxs : x ≠ h.objs.size := Nat.ne_of_lt (Heap.lt_size hx)
  refine wpAny_bind (wpAny_alloc' (wpAny_bind (wpAny_update' hx₁ (wpAny_pure ?_))))
  have hgd : ((h.push { cls := .type "dict", data := .dict #[] }).update x fun o => { cls := o.cls, dict := some h.objs.size, data := o.data, slots := o.slots }).get? h.objs.size = some { cls := .type "dict", data := .dict #[] } :=
    (Heap.get?_update_ne _ _ _ _ hxs.symm).trans (Heap.get?_push_at rfl rfl)
  have hnd : ((h.push { cls := .type "dict", data := .dict #[] }).update x fun o => { cls := o.cls, dict := some h.objs.size, data := o.data, slots := o.slots }).Ns h.objs.size (fun _ => none) :=
    ⟨_, #[], _, hgd, rfl, fun e he => absurd he (by simp), fun _ => rfl⟩
  show wpAny _ _ (storeInDict h.objs.size (.str name _) name v) _ _ _
  unfold storeInDict newKeyGuard
  refine wpAny_bind (wpAny_pure (wpAny_bind (wpAny_nsSet1 (Heap.Ns1.of_empty hnd) fun h' hn' hs => ?_)))
  obtain ⟨oD, esD, epD, hoD, hdD, hcD⟩ := hn'.count (Within.cons name v Within.nil)
  refine wpAny_bind (wpAny_lookBehind hoD (by rw [hdD]; exact pastItsLine_dict (Nat.le_trans hcD (by rw [List.length_cons, List.length_nil, sizeLine_eq]; lia))) ?_)
  have hx' : h'.get? x = some { cls := o.cls, dict := some h.objs.size, data := o.data, slots := o.slots } := by
    refine (hs.2 x hxs).trans (Heap.get?_update_self _ hx₁ ?_)
    have hfr := (Heap.get?_some_iff.mp hx).2
    obtain ⟨oc, odc, odt, osl⟩ := o
    cases odt <;> first | rfl | exact hfr
  wp_walk
  obtain ⟨o', es, ep, e1, e2, e3, eu, e4⟩ := hn'
  rw [hoD] at e1
  injection e1 with e1
  subst e1
  exact k h' _ oD hx' hoD ⟨es, ep, e2, e3, eu, e4⟩ (fun b ob hbx hb => (hs.2 b (Nat.ne_of_lt (Heap.lt_size hb))).trans ((Heap.get?_update_ne _ _ _ _ hbx).trans (Heap.get?_push_of_some _ hb)))
end

section
variable {prog : Program} {w w' : World} {A : Around} {E : Value → Shared → Prop} {s : Shared} {h₀ : Heap} {L e dx : Addr} {m mA : Str → Option Value} {rest : List (Addr × Obj)} {eo od : Obj} {name : Str} {v : Value} {ns : List Str} {P : Params}
theorem err_store1 {Q : Unit → Shared → Prop} (F : Fr h₀ L s.heap m) (N : News h₀ L s.heap ((e, eo) :: rest)) (hne : ∀ p ∈ rest, p.1 ≠ e) (X : (hd.heap_39 P).In h₀) (hcls : eo.cls = .ref 112) (hnc : ∀ c, eo.data ≠ .cls c) (hdn : eo.dict = none)
    (hna : ∀ {h : Heap}, (hd.heap_39 P).In h → h.nsMap 111 name = none) (hB : typeLookup (.type "Exception") name = pure none)
    (k : ∀ dx od h' tk, Fr h₀ L h' m → News h₀ L h' ((e, { cls := eo.cls, dict := some dx, data := eo.data, slots := eo.slots }) :: (dx, od) :: rest) → DictIs od (fun y => if y = name then some v else none) → (∀ p ∈ (e, eo) :: rest, p.1 < dx) → Q () { s with heap := h', toks := tk }) :
    wpAny (model prog w) A (setAttr (.ref e) name v) Q E s := by
  obtain ⟨h, g, d, t, os⟩ := s
  have X' := X.keeps F.keep
  obtain ⟨nm, q, bs, sub, k0, k1, k2, k3, k5, hC⟩ := err_cls X'
  have he := (N _ (.head _)).1
  refine store_first PySem.F.store_Exception hC (err_ns X') (err_sa X') (hna X') hB he hcls hnc hdn fun h' tk' od hx hod hD keep => ?_
  have hL : @LT.lt Nat _ L h.objs.size := F.ns.lt
  have hA : @LE.le Nat _ h₀.objs.size L := F.above
  have hle : @LE.le Nat _ h₀.objs.size h.objs.size := by lia
  have hLe : e ≠ L := (N _ (.head _)).2.1
  have he0 : h₀.get? e = none := (N _ (.head _)).2.2
  refine k _ od h' tk' ⟨F.ns.at' fun o => keep _ o hLe.symm, fun b o q => keep b o (fun z => by rw [z, he0] at q; cases q) (F.keep b o q), F.above⟩ (fun p hp => ?_) hD (fun p hp => Heap.lt_size (N p hp).1)
  rcases List.mem_cons.mp hp with rfl | hp
  · exact ⟨hx, hLe, he0⟩
  rcases List.mem_cons.mp hp with rfl | hp
  · refine ⟨hod, ?_, Heap.get?_none_of_le hle⟩
    have : @Ne Nat h.objs.size L := by lia
    exact this
  · exact ⟨keep _ _ (hne p hp) (N p (.tail _ hp)).1, (N p (.tail _ hp)).2⟩
theorem err_inst (N : News h₀ L s.heap ((e, eo) :: (dx, od) :: rest)) (hcls : eo.cls = .ref 112) (hnc : ∀ c, eo.data ≠ .cls c) (hdn : eo.dict = some dx) (hne : dx ≠ e) (hD : DictIs od mA) : s.heap.Inst e 112 mA := by
  obtain ⟨es, ep, d1, d2, d3, d4⟩ := hD
  exact ⟨eo, (N _ (.head _)).1, hcls, hnc, .inr ⟨dx, hdn, hne, od, es, ep, (N _ (.tail _ (.head _))).1, d1, d2, d3, d4⟩⟩
theorem err_store2 {Q : Unit → Shared → Prop} (F : Fr h₀ L s.heap m) (N : News h₀ L s.heap ((e, eo) :: (dx, od) :: rest)) (hne : ∀ p ∈ rest, p.1 ≠ e ∧ p.1 ≠ dx) (hde : dx ≠ e) (X : (hd.heap_39 P).In h₀) (hcls : eo.cls = .ref 112) (hnc : ∀ c, eo.data ≠ .cls c) (hdn : eo.dict = some dx)
    (hD : DictIs od mA) (hw : Within mA ns) (hlen : ns.length ≤ 10) (he112 : e ≠ 112)
    (hna : ∀ {h : Heap}, (hd.heap_39 P).In h → h.nsMap 111 name = none) (hB : typeLookup (.type "Exception") name = pure none)
    (k : ∀ od' h' tk, Fr h₀ L h' m → News h₀ L h' ((e, eo) :: (dx, od') :: rest) → DictIs od' (fun y => if y = name then some v else mA y) → Q () { s with heap := h', toks := tk }) :
    wpAny (model prog w) A (setAttr (.ref e) name v) Q E s := by
  obtain ⟨h, g, d, t, os⟩ := s
  have X' := X.keeps F.keep
  obtain ⟨nm, q, bs, sub, k0, k1, k2, k3, k5, hC⟩ := err_cls X'
  have he := (N _ (.head _)).1
  refine store_attr PySem.F.store_Exception hC (err_ns X') (err_sa X') (hna X') hB he112 (err_inst N hcls hnc hdn hde hD) (fun h' tk' I keep same => ?_) hw (Nat.le_trans hlen (by rw [sizeLine_eq]; decide))
  have hLe : e ≠ L := (N _ (.head _)).2.1
  have hLd : dx ≠ L := (N _ (.tail _ (.head _))).2.1
  have he0 : h₀.get? e = none := (N _ (.head _)).2.2
  have hd0 : h₀.get? dx = none := (N _ (.tail _ (.head _))).2.2
  have keep' : ∀ b o, b ≠ e → b ≠ dx → h.get? b = some o → h'.get? b = some o := fun b o h1 h2 hb => keep b o h1 (fun o₀ dx' q1 q2 => by
    dsimp only at he
    rw [he] at q1; cases q1
    rw [hdn] at q2; cases q2
    exact h2) hb
  obtain ⟨o₁, g1, c1, c2, c3, c4⟩ := same eo he
  have c4' := c4 dx hdn
  have ho : o₁ = eo := by
    obtain ⟨a1, a2, a3, a4⟩ := o₁
    obtain ⟨b1, b2, b3, b4⟩ := eo
    dsimp only at c1 c2 c3 c4' hdn
    subst c1 c2 c3 c4'
    rw [hdn]
  subst ho
  obtain ⟨o, i1, i2, i3, i4⟩ := I
  rw [g1] at i1
  injection i1 with i1
  subst i1
  rcases i4 with ⟨i4, _⟩ | ⟨d', i4, i5, od', es, ep, j1, j2, j3, j4, j5⟩
  · rw [hdn] at i4; cases i4
  · rw [hdn] at i4
    injection i4 with i4
    subst i4
    refine k od' h' tk' ⟨F.ns.at' fun o => keep' _ o hLe.symm hLd.symm, fun b o q => keep' b o (fun z => by rw [z, he0] at q; cases q) (fun z => by rw [z, hd0] at q; cases q) (F.keep b o q), F.above⟩ (fun p hp => ?_) ⟨es, ep, j2, j3, j4, j5⟩
    rcases List.mem_cons.mp hp with rfl | hp
    · exact ⟨g1, hLe, he0⟩
    rcases List.mem_cons.mp hp with rfl | hp
    · exact ⟨j1, hLd, hd0⟩
    · exact ⟨keep' _ _ (hne p hp).1 (hne p hp).2 (N p (.tail _ (.tail _ hp))).1, (N p (.tail _ (.tail _ hp))).2⟩
end

end
section
open PySem.Builtin PySem.Builtin.BaseException
section
variable {prog : Program} {w : World} {A : Around} {E : Value → Shared → Prop} {s : Shared} {h₀ : Heap} {L e dx : Addr} {m mA : Str → Option Value} {rest : List (Addr × Obj)} {eo od : Obj} {name : Str} {v : Value} {vs : Array Value} {t0 : Addr} {P : Params}
theorem err_exc_init {Q : Value → Shared → Prop} (F : Fr h₀ L s.heap m) (N : News h₀ L s.heap ((e, eo) :: rest)) (hne : ∀ p ∈ rest, p.1 ≠ e) (X : (hd.heap_39 P).In h₀) (hcls : eo.cls = .ref 112) (hdt : eo.data = .fields vs) (h0 : vs[0]? = some (.ref t0))
    (k : ∀ vs' h', Fr h₀ L h' m → News h₀ L h' ((e, { cls := eo.cls, dict := eo.dict, data := .fields vs', slots := eo.slots }) :: rest) → Q .none { s with heap := h' }) :
    wpAny (model prog w) A (call (.builtin "Exception.__init__") [.ref e, v]) Q E s := by
  obtain ⟨h, g, d, t, os⟩ := s
  have X' := X.keeps F.keep
  obtain ⟨nm, q, bs, sub, k0, k1, k2, k3, k5, hC⟩ := err_cls X'
  have he := (N _ (.head _)).1
  have FX := PySem.F.excBase_Exception
  refine wpAny_call (codeAny_call_builtin FX.init.plain FX.initEntry (wpAny_check_init_sub FX hC he hcls ?_))
  unfold Builtin.«BaseException.__init__»
  dsimp only
  rw [if_neg (by simp)]
  unfold newTuple Builtin.BaseException.bexcPut
  have hsz : 0 < vs.size := (Array.getElem?_eq_some_iff.mp h0).1
  have he₁ := Heap.get?_push_of_some (h := h) { cls := .type "tuple", data := .seq [v].toArray } he
  refine wpAny_bind (wpAny_newObj_type (wpAny_bind (wpAny_bind (wpAny_field he₁ hdt h0 (wpAny_bind (wpAny_setField he₁ hdt hsz ?_))))) (by show 1 ≤ sizeLine; rw [sizeLine_eq]; decide))
  refine wpAny_letGo (wpAny_pure ?_)
  have hLe : e ≠ L := (N _ (.head _)).2.1
  have he0 : h₀.get? e = none := (N _ (.head _)).2.2
  have keep : ∀ b o, b ≠ e → h.get? b = some o → ((h.push { cls := .type "tuple", data := .seq [v].toArray }).update e (Obj.mapFields (·.setIfInBounds 0 (.ref h.objs.size)))).get? b = some o := fun b o hb q =>
    (Heap.get?_update_ne _ _ _ _ hb).trans (Heap.get?_push_of_some _ q)
  refine k (vs.setIfInBounds 0 (.ref h.objs.size)) _ ⟨F.ns.at' fun o => keep _ o hLe.symm, fun b o q => keep b o (fun z => by rw [z, he0] at q; cases q) (F.keep b o q), F.above⟩ (fun p hp => ?_)
  rcases List.mem_cons.mp hp with rfl | hp
  · refine ⟨?_, hLe, he0⟩
    rw [Heap.get?_update_self _ he₁ (Obj.isFreed_of_fields (Obj.data_mapFields hdt _))]
    obtain ⟨b1, b2, b3, b4⟩ := eo
    dsimp only at hdt
    subst hdt
    rfl
  · exact ⟨keep _ _ (hne p hp) (N p (.tail _ hp)).1, (N p (.tail _ hp)).2⟩
end

end
section
theorem calm_E3 : True := by
  w_top off
  trivial
theorem exc_init_found {K : Frag} : findCls K (.type "Exception") (.type "type") "__init__" = some (.val (.builtin "Exception.__init__")) := by kernel_rfl
theorem init_go : ∀ (w : World) (dp un : Nat) (gd : Option (List Code)) (A₀ : Around) (base h₀ : Heap) (outer : List Env) (env : Env) (L : Addr) (m : Str → Option Value) (s : Shared) (p : Program) (loose : List Str) (mean : ExcName → Option Value) (mg mb : Str → Option Value),
    (hd.heap_39 w.params).In h₀ → Below A₀ base outer h₀ → Fr h₀ L s.heap m → Top p loose mean mg mb h₀ → env.frame = some L → env.scope.kind = .function → dp < recursionLimit →
    ∀ (e t0 : Addr) (eo : Obj) (vs : Array Value) (a b c : Value) (R : Result → Shared → Prop), News h₀ L s.heap [(e, eo)] → eo.cls = .ref 112 → eo.dict = none → eo.data = .fields vs → vs[0]? = some (.ref t0) → e ≠ 112 →
    (∀ h' t' eo' dx od, But [e] s.heap h' → h'.get? e = some eo' → eo'.cls = .ref 112 → eo'.dict = some dx → (∀ c, eo'.data ≠ .cls c) → h'.get? dx = some od → s.heap.get? dx = none →
      DictIs od (fun y => if y = Str.ofString "msg" then some a else if y = Str.ofString "lineno" then some c else if y = Str.ofString "filename" then some b else none) → R (.ok (.ret .none)) { s with heap := h', toks := t' }) →
    codeAny (model PySem.Challenge.rw_kl0472_01.row.prog w) ⟨none, dp, some (env :: outer), gd, un⟩ (.call (.ref 102) ⟨[.ref e, a, b, c], []⟩) R s := by
  k_fill
  intro w dp un gd A₀ base h₀ outer env L m s p loose mean mg mb X B F T0 hf hke hroom e t0 eo vs a b c R N hcls hdn hdt h0 he112 k
  k_dflt (refine' code_mine (K := hd.heap_39 w.params) ?k1 ?k2 ?k3 ?k4 ?k5 ?kA ?kF ?kK ?k6 ?k7 ?k8 ?k9 ?kB ?_ ?c2 ?c3 ?c4 ?c5; (case kA => exact rfl); (case kF => exact hf); (case kK => exact hke); (case k1 => k_asm); (case k2 => k_asm); (case k3 => k_asm); (case k4 => k_asm); (case k5 => k_asm); (case k6 => k_is); (case k7 => k_is); (case k8 => exact hroom); (case k9 => first | exact BindsTo.of_eq rfl | exact binds_K (by k_in) rfl (by k_is) rfl rfl rfl); (case c5 => decide); (case kB => exact locs rfl); (case c2 => exact rfl); (case c3 => exact rfl); (case c4 => exact rfl); k_whole; intro g' L' h' kp st F' N' B' X' T'; (try dsimp only); (try k_fold))
  have hnc : ∀ c, eo.data ≠ .cls c := fun c q => by rw [hdt] at q; cases q
  k_steps
  refine err_store1 (by assumption) N' (fun _ q => nomatch q) X' hcls hnc hdn err_file exc_file ?_
  intro dx od h1 tk1 F1 N1 D1 l1
  have lde : dx ≠ e := Nat.ne_of_gt (l1 _ (.head _))
  k_lt l1
  k_steps
  refine err_store2 F1 N1 (fun _ q => nomatch q) lde X' hcls hnc rfl D1 (Within.cons "filename" b Within.nil) (by decide) he112 err_line exc_line ?_
  intro od2 h2 tk2 F2 N2 D2
  k_steps
  refine err_store2 F2 N2 (fun _ q => nomatch q) lde X' hcls hnc rfl D2 (Within.cons "lineno" c (Within.cons "filename" b Within.nil)) (by decide) he112 err_msg exc_msg ?_
  intro od3 h3 tk3 F3 N3 D3
  clear F1 N1 F2 N2 F' N'
  k_steps
  refine method_type (F := F3) (X₀ := X') (by kernel_rfl) (by decide +kernel) exc_init_found (by kernel_rfl) ?_
  k_steps
  refine err_exc_init F3 N3 (fun p hp => by rw [List.mem_singleton.mp hp]; exact lde) X' hcls hdt h0 ?_
  intro vs' h4 F4 N4
  k_steps
  refine k h4 _ _ dx od3 (fun x o hx q => F4.keep _ _ (kp x o hx q)) (N4 _ (.head _)).1 hcls rfl (fun c q => by cases q) (N4 _ (.tail _ (.head _))).1 ?_ D3
  cases q : s.heap.get? dx with
  | none => rfl
  | some o =>
    have q2 := kp dx o (fun z => lde (List.mem_singleton.mp z)) q
    rw [(N4 _ (.tail _ (.head _))).2.2] at q2
    cases q2

end
section
/-- an error that is made, on the heap -/
noncomputable def ErrObj (h : Heap) (e : Addr) (a b c : Value) : Prop := ∃ eo dx od, h.get? e = some eo ∧ eo.cls = .ref 112 ∧ eo.dict = some dx ∧ (∀ c, eo.data ≠ .cls c) ∧ h.get? dx = some od ∧ dx ≠ e ∧
  DictIs od (fun y => if y = Str.ofString "msg" then some a else if y = Str.ofString "lineno" then some c else if y = Str.ofString "filename" then some b else none) ∧ e ∉ [65, 82] ∧ dx ∉ [65, 82]
theorem ErrObj.stay {h h' : Heap} {e : Addr} {a b c : Value} (x : ErrObj h e a b c) (k : But [65, 82] h h') : ErrObj h' e a b c := by
  obtain ⟨eo, dx, od, h1, h2, h3, h4, h5, h6, h7, h8, h9⟩ := x
  exact ⟨eo, dx, od, k _ _ h8 h1, h2, h3, h4, k _ _ h9 h5, h6, h7, h8, h9⟩
theorem under_call (A : Around) (C : Addr) (vals : List Value) (kw : List (Str × Value)) (env : Env) (outer : List Env) (dp un : Nat) (gd : Option (List Code)) (hA : A = ⟨none, dp, some (env :: outer), gd, un⟩) : ∃ dp2 gd2 un2, A.under (.builtin "type.__call__" ⟨.ref C :: vals, kw⟩) = ⟨none, dp2, some (env :: outer), gd2, un2⟩ ∧ dp2 = dp + 1 := by
  subst hA
  exact ⟨_, _, _, rfl, depth_under_kw _ C vals kw⟩
theorem err_make {w : World} {dp un : Nat} {gd : Option (List Code)} {A₀ : Around} {base h₀ : Heap} {outer : List Env} {env : Env} {L : Addr} {m : Str → Option Value} {s : Shared} {p : Program} {loose : List Str} {mean : ExcName → Option Value} {mg mb : Str → Option Value} {Q E : Value → Shared → Prop} {A : Around}
    (hA : A = ⟨none, dp, some (env :: outer), gd, un⟩) (F : Fr h₀ L s.heap m) (X : (hd.heap_39 w.params).In h₀) (B : Below A₀ base outer h₀) (T0 : Top p loose mean mg mb h₀) (hf : env.frame = some L) (hke : env.scope.kind = .function) (hroom : dp + 1 < recursionLimit)
    {a b c : Value} {o65 o82 : Obj} (h65 : s.heap.get? 65 = some o65) (h82 : s.heap.get? 82 = some o82)
    (k : ∀ h' t' e, Stays s.heap h' → ErrObj h' e a b c → s.heap.get? e = none → Q (.ref e) { s with heap := h', toks := t' }) :
    wpAny (model PySem.Challenge.rw_kl0472_01.row.prog w) A (call (.ref 112) [a, b, c]) Q E s := by
  obtain ⟨h, g, d, t, os⟩ := s
  have X' := X.keeps F.keep
  obtain ⟨nm, q, bs, sub, k0, k1, k2, k3, k5, hC⟩ := err_cls X'
  have hfn : ∃ oI, h.get? 102 = some oI ∧ oI.cls = .type "function" := ⟨_, X' 102 _ rfl, rfl⟩
  obtain ⟨oI, hI, hIc⟩ := hfn
  refine wpAny_call_exc_init PySem.F.excBase_Exception hC (err_ns X') (err_init X') hI hIc (fun h1 e M => ?_) (by show 3 ≤ sizeLine; rw [sizeLine_eq]; decide)
  obtain ⟨dp2, gd2, un2, hA2, hdp⟩ := under_call A 112 [a, b, c] [] env outer dp un gd hA
  rw [hA2]
  obtain ⟨kp, hnew, t0, he, ht0, ht1⟩ := M
  have hL : e ≠ L := fun q => by
    obtain ⟨o, _, _, e1, _⟩ := F.ns
    dsimp only at e1
    rw [← q, hnew] at e1; cases e1
  have he0 : h₀.get? e = none := by
    cases q : h₀.get? e with
    | none => rfl
    | some o => have := F.keep _ _ q; dsimp only at this; rw [hnew] at this; cases this
  have F1 : Fr h₀ L h1 m := ⟨F.ns.at' fun o => kp _ o, fun b o q => kp b o (F.keep b o q), F.above⟩
  have ne65 : e ≠ 65 := fun q => by dsimp only at h65; rw [← q, hnew] at h65; cases h65
  have ne82 : e ≠ 82 := fun q => by dsimp only at h82; rw [← q, hnew] at h82; cases h82
  have ne112 : e ≠ 112 := fun q => by rw [← q, hnew] at hC; cases hC
  refine wpAny_call (init_go w dp2 un2 gd2 A₀ base h₀ outer env L m ⟨h1, g, d, t, os⟩ p loose mean mg mb X B F1 T0 hf hke (by lia) e t0 _ _ a b c _ (fun p hp => by rw [List.mem_singleton.mp hp]; exact ⟨he, hL, he0⟩) rfl rfl rfl rfl ne112 ?_)
  intro h' t' eo' dx od hb i1 i2 i3 i4 i5 i6 i7
  have st : Stays h h' := fun x o q => hb x o (fun z => by rw [List.mem_singleton.mp z, hnew] at q; cases q) (kp x o q)
  have nd65 : dx ≠ 65 := fun q => by dsimp only at i6 h65; rw [q, kp _ _ h65] at i6; cases i6
  have nd82 : dx ≠ 82 := fun q => by dsimp only at i6 h82; rw [q, kp _ _ h82] at i6; cases i6
  have nde : dx ≠ e := fun q => by dsimp only at i6; rw [q, he] at i6; cases i6
  exact ⟨rfl, k h' t' e st ⟨eo', dx, od, i1, i2, i3, i4, i5, nde, i7, by simp [ne65, ne82], by simp [nd65, nd82]⟩ hnew⟩

end
section
section
variable {prog : Program} {w : World} {A : Around} {E : Value → Shared → Prop} {h : Heap} {g : Array GenState} {d : Drawn} {t : Nat} {os : OsState} {nm q name : Str} {C N x : Addr} {bs bm bmB : List Value} {sn : List Str} {sub : List Value} {ab : Bool} {col : Option Bool} {dd : Option Addr} {k0 k1 k2 k3 k5 : Option Value} {B newId : String} {mN mA : Str → Option Value} {v : Value}
open PySem.Builtin PySem.Builtin.ObjectAttr
theorem exc_load_entry {tk : Tok} {Q : Fin → Shared → Prop} (FB : ExcAttrBase B bm) (hC : h.get? C = some (excClassObj nm q C N bs bm true sn sub ab col dd k0 k1 k2 k3 k5 newId)) (hN : h.Ns N mN) (hna : mN name = none) (hB : typeLookup (.type B) name = pure none) (I : h.Inst x C mA) (hv : mA name = some v)
    (hq : Q (.done (.ret v)) ⟨h, g, d, t, os⟩) : wpAny (model prog w) A (Builtin.«object.__getattribute__» ⟨[.ref x, .str name tk], []⟩) Q E ⟨h, g, d, t, os⟩ := by
  obtain ⟨o, hx, hc, hnc, hd⟩ := I
  rcases hd with ⟨_, hmA⟩ | ⟨dx, hdx, hne, hns⟩
  · rw [hmA name] at hv; cases hv
  unfold Builtin.«object.__getattribute__»
  repeat (first | (with_reducible refine wpAny_loadPart_at hx ?_; rw [hc]) | (with_reducible refine wpAny_typeLookup_exc hC hN FB.mro hB ?_; rw [hna]) | wp_step)
  split
  · rename_i c hcd
    exact absurd hcd (hnc c)
  unfold instanceDict
  repeat (first | (with_reducible refine wpAny_loadPart_at hx ?_; rw [hc]) | with_reducible refine wpAny_loadPart_at hC ?_ | wp_step)
  rw [hdx]
  repeat (first | (with_reducible refine wpAny_nsGet hns.ns ?_; rw [hv]) | wp_step)
  exact hq
theorem exc_ga_check {M : Model} {nameV : Value} {Q : Unit → Shared → Prop} (FB : ExcAttrBase B bm) (hC : h.get? C = some (excClassObj nm q C N bs bm true sn sub ab col dd k0 k1 k2 k3 k5 newId)) {o : Obj}
    (hx : h.get? x = some o) (hc : o.cls = .ref C) (hq : Q () ⟨h, g, d, t, os⟩) : wpAny M A (checkBuiltinCall "BaseException.__getattribute__" ⟨[.ref x, nameV], []⟩) Q E ⟨h, g, d, t, os⟩ := by
  have hk : builtinKind "BaseException.__getattribute__" = some .slot := by decide +kernel
  have hsplit : splitId "BaseException.__getattribute__" = some ("BaseException", "__getattribute__") := by decide +kernel
  have hcB : (Value.ref C :: bm).contains (.type "BaseException") = true := by rw [List.contains_cons, FB.hasBase, Bool.or_true]
  have ha := PySem.F.args_bexc_ga (.ref x) nameV
  simp only [checkBuiltinCall, hk, hsplit]
  refine wpAny_bind ?_
  unfold isInstance
  repeat (first | (with_reducible refine wpAny_loadPart_at hx ?_; rw [hc]) | (with_reducible refine wpAny_isSubtype_exc hC ?_; rw [hcB]) | wp_step)
  exact hq
theorem exc_load {expr : Bool} {Q : Value → Shared → Prop} (FB : ExcAttrBase B bm) (hC : h.get? C = some (excClassObj nm q C N bs bm true sn sub ab col dd k0 k1 k2 k3 k5 newId)) (hN : h.Ns N mN) (hna : mN name = none) (hga : mN "__getattribute__" = none) (hgt : mN "__getattr__" = none) (hB : typeLookup (.type B) name = pure none)
    (I : h.Inst x C mA) (hv : mA name = some v) (hh : handedOut v = pure v) (hq : Q v ⟨h, g, d, t + 1, os⟩) : wpAny (model prog w) A (getAttr (.ref x) name expr) Q E ⟨h, g, d, t, os⟩ := by
  have f3 := FB.ga.bind (.ref x)
  obtain ⟨o, hx, hc, _⟩ := id I
  have hx0 : (expr && onTheHeap (Value.builtin "BaseException.__getattribute__")) = false := by cases expr <;> rfl
  have hx2 : (Value.builtin "BaseException.__getattribute__" == Value.builtin "object.__getattribute__") = false := by decide +kernel
  have hx1 : (onTheHeap (Value.ref C) && Value.builtin "BaseException.__getattribute__" == Value.builtin "object.__getattribute__") = false := by rw [hx2]; rfl
  unfold getAttr
  repeat (any_goals (first | assumption | (with_reducible refine wpAny_loadPart_at hx ?_; rw [hc]) | (with_reducible refine wpAny_typeLookup_exc hC hN FB.mro FB.ga.lookup ?_; rw [hga]) | (with_reducible refine wpAny_typeLookup_exc hC hN FB.mro FB.noGetattr ?_; rw [hgt]) | wp_step))
  refine codeAny_call_builtin FB.ga.plain PySem.F.entry_bexc_ga (exc_ga_check FB hC hx hc (exc_load_entry FB hC hN hna hB I hv ?_))
  show wpAny _ _ (handedOut v) _ _ _
  rw [hh]
  exact wpAny_pure hq
end
/-- a value of an error's three names -/
inductive Plain3 : Value → Prop
  | str (x : Str) (t : Tok) : Plain3 (.str x t)
  | int (n : Int) (t : Tok) : Plain3 (.int n t)
  | none : Plain3 .none
  | ref (a : Addr) : Plain3 (.ref a)
theorem Plain3.out {v : Value} (x : Plain3 v) : handedOut v = pure v := by cases x <;> exact handedOut_of rfl
section
variable {prog : Program} {w : World} {A : Around} {E : Value → Shared → Prop} {s : Shared} {h₀ : Heap} {L e : Addr} {m : Str → Option Value} {a b c : Value} {P : Params}
theorem ErrObj.inst {h : Heap} (x : ErrObj h e a b c) : h.Inst e 112 (fun y => if y = Str.ofString "msg" then some a else if y = Str.ofString "lineno" then some c else if y = Str.ofString "filename" then some b else none) := by
  obtain ⟨eo, dx, od, h1, h2, h3, h4, h5, h6, ⟨es, ep, d1, d2, d3, d4⟩, _⟩ := x
  exact ⟨eo, h1, h2, h4, .inr ⟨dx, h3, h6, od, es, ep, h5, d1, d2, d3, d4⟩⟩
theorem load_msg {expr : Bool} {Q : Value → Shared → Prop} (X : (hd.heap_39 P).In s.heap) (x : ErrObj s.heap e a b c) (p : Plain3 a) (k : ∀ t, Q a { s with toks := t }) : wpAny (model prog w) A (getAttr (.ref e) "msg" expr) Q E s := by
  obtain ⟨h, g, d, t, os⟩ := s
  obtain ⟨nm, q, bs, sub, k0, k1, k2, k3, k5, hC⟩ := err_cls X
  exact exc_load PySem.F.attrBase_Exception hC (err_ns X) (err_msg X) (err_ga X) (err_gt X) exc_msg x.inst rfl p.out (k _)
theorem load_file {expr : Bool} {Q : Value → Shared → Prop} (X : (hd.heap_39 P).In s.heap) (x : ErrObj s.heap e a b c) (p : Plain3 b) (k : ∀ t, Q b { s with toks := t }) : wpAny (model prog w) A (getAttr (.ref e) "filename" expr) Q E s := by
  obtain ⟨h, g, d, t, os⟩ := s
  obtain ⟨nm, q, bs, sub, k0, k1, k2, k3, k5, hC⟩ := err_cls X
  exact exc_load PySem.F.attrBase_Exception hC (err_ns X) (err_file X) (err_ga X) (err_gt X) exc_file x.inst rfl p.out (k _)
theorem load_line {expr : Bool} {Q : Value → Shared → Prop} (X : (hd.heap_39 P).In s.heap) (x : ErrObj s.heap e a b c) (p : Plain3 c) (k : ∀ t, Q c { s with toks := t }) : wpAny (model prog w) A (getAttr (.ref e) "lineno" expr) Q E s := by
  obtain ⟨h, g, d, t, os⟩ := s
  obtain ⟨nm, q, bs, sub, k0, k1, k2, k3, k5, hC⟩ := err_cls X
  exact exc_load PySem.F.attrBase_Exception hC (err_ns X) (err_line X) (err_ga X) (err_gt X) exc_line x.inst rfl p.out (k _)
/-- the text of an error, by its class's own __str__ -/
theorem conv_err {Q : Value → Shared → Prop} (X : (hd.heap_39 P).In s.heap) (x : ErrObj s.heap e a b c) (hu : A.units < cLine)
    (hc : wpAny (model prog w) A (call (.ref 109) [.ref e]) (fun r s₁ => ∃ y t, r = .str y t ∧ Q r s₁) E s) : wpAny (model prog w) A (pyStrObj (.ref e)) Q E s := by
  obtain ⟨eo, dx, od, h1, h2, h3, h4, h5, h6, h7, _⟩ := x
  have hfn : ∃ oI, s.heap.get? 109 = some oI ∧ oI.cls = .type "function" := ⟨_, X 109 _ rfl, rfl⟩
  obtain ⟨oI, hI, hIc⟩ := hfn
  obtain ⟨h, g, d, t, os⟩ := s
  obtain ⟨nm, q, bs, sub, k0, k1, k2, k3, k5, hC⟩ := err_cls X
  unfold pyStrObj
  refine wpAny_bind (m := cRoomFor _ _) (wpAny_cRoomFor hu ?_)
  refine wpAny_bind (m := callSpecial? (.ref e) (Str.ofString "__str__")) ?_
  have hB : ∃ y, typeLookup (.type "Exception") (Str.ofString "__str__") = pure y := ⟨some (.builtin "BaseException.__str__"), by rw [typeLookup_type, builtinLookup_eq_fast]; kernel_rfl⟩
  obtain ⟨y, hB⟩ := hB
  refine wpAny_callSpecial?_own (B := "Exception") (f := 109) (C := 112) ⟨eo, oI, nm, q, 111, bs, errMro, true, [], sub, false, none, none, k0, k1, k2, k3, k5, _, _, y, h1, h2, hC, err_ns X, err_str X, hI, hIc, PySem.F.excBase_Exception.mroIs, hB⟩ ?_
  refine wpAny_mono hc (fun r s₁ h₁ => ?_) fun _ _ e => e
  obtain ⟨z, t, rfl, hq⟩ := h₁
  exact wpAny_bind (wpAny_isInstance (T := "str") (b := true) rfl isSubtype_str_str (wpAny_pure hq))
end

end
section
/-- the things of a row, and the trees of errors -/
inductive Thing
  | int (n : Int)
  | none
  | word (x : Str)
inductive Tree
  | leaf (g : Thing) (name : Str) (val : Option Str)
  | node (a b c : Tree)
noncomputable def ThingIs : Thing → Value → Prop
  | .int n, v => ∃ t, v = .int n t
  | .none, v => v = .none
  | .word x, v => ∃ t, v = .str x t
noncomputable def Thing.shown : Thing → Str
  | .int n => Str.ofString (toString n)
  | .none => Str.ofString "None"
  | .word x => x
noncomputable def Tree.shown : Tree → Str
  | .leaf g _ _ => g.shown
  | .node a b c => Str.empty ++ a.shown ++ Str.ofString " (" ++ b.shown ++ Str.ofString ", line " ++ c.shown ++ Str.ofString ")"
noncomputable def Tree.depth : Tree → Nat
  | .leaf _ _ _ => 0
  | .node a b c => 1 + max a.depth (max b.depth c.depth)
noncomputable def Thing.small : Thing → Prop
  | .int n => n.natAbs < 2 ^ 1900
  | _ => True
noncomputable def Tree.small : Tree → Prop
  | .leaf g _ _ => g.small
  | .node a b c => a.small ∧ b.small ∧ c.small
noncomputable def ErrTree (h : Heap) : Tree → Value → Prop
  | .leaf g _ _, v => ThingIs g v
  | .node a b c, v => ∃ e va vb vc, v = .ref e ∧ ErrObj h e va vb vc ∧ ErrTree h a va ∧ ErrTree h b vb ∧ ErrTree h c vc
theorem ErrTree.stay {h h' : Heap} (k : But [65, 82] h h') : ∀ {t : Tree} {v : Value}, ErrTree h t v → ErrTree h' t v
  | .leaf _ _ _, _, x => x
  | .node _ _ _, _, ⟨e, va, vb, vc, h1, h2, h3, h4, h5⟩ => ⟨e, va, vb, vc, h1, h2.stay k, h3.stay k, h4.stay k, h5.stay k⟩
theorem ThingIs.plain {g : Thing} {v : Value} (x : ThingIs g v) : Plain3 v := by
  cases g with
  | int n => obtain ⟨t, rfl⟩ := x; exact .int n t
  | none => cases x; exact .none
  | word y => obtain ⟨t, rfl⟩ := x; exact .str y t
theorem ErrTree.plain {h : Heap} {t : Tree} {v : Value} (x : ErrTree h t v) : Plain3 v := by
  cases t with
  | leaf g n v => exact ThingIs.plain x
  | node a b c => obtain ⟨e, _, _, _, rfl, _⟩ := x; exact .ref e
/-- what str() of an error gives: the claim for one tree -/
noncomputable def StrOk (t : Tree) : Prop := ∀ (w : World) (dp un : Nat) (gd : Option (List Code)) (A₀ : Around) (base h₀ : Heap) (outer : List Env) (env : Env) (L : Addr) (m : Str → Option Value) (s : Shared) (p : Program) (loose : List Str) (mean : ExcName → Option Value) (mg mb : Str → Option Value),
    (hd.heap_39 w.params).In h₀ → Below A₀ base outer h₀ → Fr h₀ L s.heap m → Top p loose mean mg mb h₀ → env.frame = some L → env.scope.kind = .function → dp + t.depth + 1 < recursionLimit → un + 10 * t.depth + 10 < cLine →
    ∀ (e : Addr) (R : Result → Shared → Prop), ErrTree s.heap t (.ref e) → t.shown.length ≤ 100000 → t.small →
    (∀ h' t' u, Stays s.heap h' → R (.ok (.ret (.str t.shown u))) { s with heap := h', toks := t' }) →
    codeAny (model PySem.Challenge.rw_kl0472_01.row.prog w) ⟨none, dp, some (env :: outer), gd, un⟩ (.call (.ref 109) ⟨[.ref e], []⟩) R s
theorem conv_tree {t : Tree} (ih : StrOk t) {w : World} {dp un : Nat} {gd : Option (List Code)} {A₀ : Around} {base h₀ : Heap} {outer : List Env} {env : Env} {L : Addr} {m : Str → Option Value} {s : Shared} {p : Program} {loose : List Str} {mean : ExcName → Option Value} {mg mb : Str → Option Value} {Q E : Value → Shared → Prop} {A : Around} {v : Value}
    (hA : A = ⟨none, dp, some (env :: outer), gd, un⟩) (F : Fr h₀ L s.heap m) (X : (hd.heap_39 w.params).In h₀) (B : Below A₀ base outer h₀) (T0 : Top p loose mean mg mb h₀) (hf : env.frame = some L) (hke : env.scope.kind = .function) (hroom : dp + t.depth + 1 < recursionLimit) (hu : un + 10 * t.depth + 10 < cLine)
    (x : ErrTree s.heap t v) (hz : t.shown.length ≤ 100000) (hs : t.small) (k : ∀ h' t' u, Stays s.heap h' → Fr h₀ L h' m → Q (.str t.shown u) { s with heap := h', toks := t' }) :
    wpAny (model PySem.Challenge.rw_kl0472_01.row.prog w) A (convS v) Q E s := by
  cases t with
  | leaf g n vv =>
    cases g with
    | int n =>
      obtain ⟨t, rfl⟩ := x
      have hs' : n.natAbs < 2 ^ 1900 := hs
      refine SB.convS_int ?_ (k _ _ _ Stays.rfl F)
      by_cases q : n.natAbs = 0
      · rw [q]; decide
      · have := (Nat.log2_lt q).mpr hs'
        lia
    | none => cases x; exact SB.convS_none (k _ _ _ Stays.rfl F)
    | word y =>
      obtain ⟨t, rfl⟩ := x
      exact SB.convS_str (fun t' k' => k _ _ _ Stays.rfl F) (Nat.le_trans hz (by rw [sizeLine_eq]; decide))
  | node a b c =>
    have x' := x
    obtain ⟨e, va, vb, vc, rfl, h2, _⟩ := x'
    subst hA
    refine conv_err (X.keeps F.keep) h2 (by show un < cLine; lia) ?_
    refine wpAny_call (ih w dp un gd A₀ base h₀ outer env L m s p loose mean mg mb X B F T0 hf hke hroom hu e _ x hz hs ?_)
    intro h' t' u st
    exact ⟨_, _, rfl, k h' t' u st ⟨F.ns.keeps st, fun b o q => st b o (F.keep b o q), F.above⟩⟩

end
section
theorem calm_E7 : True := by
  w_top off
  trivial
section
variable {prog : Program} {w : World} {A : Around} {E : Value → Shared → Prop} {s : Shared} {g : Heap} {L e : Addr} {m : Str → Option Value} {a b c : Value} {expr : Bool} {Q : Value → Shared → Prop}
theorem load_msgK (X : (hd.heap_39 w.params).In g) (F : Fr g L s.heap m) (x : ErrObj g e a b c) (p : Plain3 a) (k : ∀ t, Q a { s with toks := t }) : wpAny (model prog w) A (getAttr (.ref e) "msg" expr) Q E s := load_msg (X.keeps F.keep) (x.stay fun b o _ q => F.keep b o q) p k
theorem load_fileK (X : (hd.heap_39 w.params).In g) (F : Fr g L s.heap m) (x : ErrObj g e a b c) (p : Plain3 b) (k : ∀ t, Q b { s with toks := t }) : wpAny (model prog w) A (getAttr (.ref e) "filename" expr) Q E s := load_file (X.keeps F.keep) (x.stay fun b o _ q => F.keep b o q) p k
theorem load_lineK (X : (hd.heap_39 w.params).In g) (F : Fr g L s.heap m) (x : ErrObj g e a b c) (p : Plain3 c) (k : ∀ t, Q c { s with toks := t }) : wpAny (model prog w) A (getAttr (.ref e) "lineno" expr) Q E s := load_line (X.keeps F.keep) (x.stay fun b o _ q => F.keep b o q) p k
end
local macro_rules | `(tactic| walk_at "getAttr ref") => `(tactic| (k_here; k_dflt ((with_reducible first | apply load_msgK | apply load_fileK | apply load_lineK); assumption; k_asm; assumption; assumption); intros))
theorem str_go : ∀ t : Tree, StrOk t := by
  intro t
  induction t with
  | leaf g n v =>
    intro w dp un gd A₀ base h₀ outer env L m s p loose mean mg mb X B F T0 hf hke hroom hu e R x
    cases g with
    | int n => obtain ⟨t, q⟩ := x; cases q
    | none => cases x
    | word y => obtain ⟨t, q⟩ := x; cases q
  | node a b c iha ihb ihc =>
    unfold StrOk
    k_fill
    intro w dp un gd A₀ base h₀ outer env L m s p loose mean mg mb X B F T0 hf hke hroom hu e R x hz hs k
    obtain ⟨e', va, vb, vc, he, hE, ha, hb, hc⟩ := x
    cases he
    have hroom0 : dp < recursionLimit := by lia
    have hN : News h₀ L s.heap [] := News.nil
    k_dflt (refine' code_mine (K := hd.heap_39 w.params) ?k1 ?k2 ?k3 ?k4 ?k5 ?kA ?kF ?kK ?k6 ?k7 ?k8 ?k9 ?kB ?_ ?c2 ?c3 ?c4 ?c5; (case kA => exact rfl); (case kF => exact hf); (case kK => exact hke); (case k1 => k_asm); (case k2 => k_asm); (case k3 => k_asm); (case k4 => k_asm); (case k5 => k_asm); (case k6 => k_is); (case k7 => k_is); (case k8 => exact hroom0); (case k9 => first | exact BindsTo.of_eq rfl | exact binds_K (by k_in) rfl (by k_is) rfl rfl rfl); (case c5 => decide); (case kB => exact locs rfl); (case c2 => exact rfl); (case c3 => exact rfl); (case c4 => exact rfl); k_whole; intro g' L' h' kp st F' N' B' X' T'; (try dsimp only); (try k_fold))
    have kg : Stays s.heap g' := fun b o q => kp b o (fun z => nomatch z) q
    replace hE := hE.stay (kg.but _)
    replace ha := ha.stay (kg.but _)
    replace hb := hb.stay (kg.but _)
    replace hc := hc.stay (kg.but _)
    have pa := ha.plain
    have pb := hb.plain
    have pc := hc.plain
    have hd1 : a.depth + 1 ≤ (Tree.node a b c).depth := by show _ ≤ 1 + max a.depth (max b.depth c.depth); lia
    have hd2 : b.depth + 1 ≤ (Tree.node a b c).depth := by show _ ≤ 1 + max a.depth (max b.depth c.depth); lia
    have hd3 : c.depth + 1 ≤ (Tree.node a b c).depth := by show _ ≤ 1 + max a.depth (max b.depth c.depth); lia
    have hzz : a.shown.length + b.shown.length + c.shown.length ≤ 100000 := by
      have : (Tree.node a b c).shown.length = _ := rfl
      simp only [Tree.shown, PySem.Str.length_append] at hz
      lia
    have hza : a.shown.length ≤ 100000 := by lia
    have hzb : b.shown.length ≤ 100000 := by lia
    have hzc : c.shown.length ≤ 100000 := by lia
    obtain ⟨hsa, hsb, hsc⟩ := hs
    k_steps
    (with_reducible rename Fr g' _ _ _ => kF1)
    refine conv_tree iha rfl kF1 X' B' T' rfl rfl (by show dp + 1 + a.depth + 1 < _; lia) (by show un + 3 + 10 * a.depth + 10 < _; lia) (ha.stay fun b o _ q => kF1.keep b o q) hza hsa ?_
    intro h1 t1 u1 st1 F1
    clear kF1
    k_steps
    (with_reducible rename Fr g' _ _ _ => kF2)
    refine conv_tree ihb rfl kF2 X' B' T' rfl rfl (by show dp + 1 + b.depth + 1 < _; lia) (by show un + 3 + 10 * b.depth + 10 < _; lia) (hb.stay fun b o _ q => kF2.keep b o q) hzb hsb ?_
    intro h2 t2 u2 st2 F2
    clear kF2
    k_steps
    (with_reducible rename Fr g' _ _ _ => kF3)
    refine conv_tree ihc rfl kF3 X' B' T' rfl rfl (by show dp + 1 + c.depth + 1 < _; lia) (by show un + 3 + 10 * c.depth + 10 < _; lia) (hc.stay fun b o _ q => kF3.keep b o q) hzc hsc ?_
    intro h3 t3 u3 st3 F3
    clear kF3
    k_steps
    exact k _ _ _ fun b o q => Fr.keep (h₀ := g') (by assumption) b o (kg b o q)

end
section
open PySem.Builtin PySem.Builtin.Str in
theorem strOf_err {prog : Program} {w : World} {A : Around} {E : Value → Shared → Prop} {s : Shared} {e : Addr} {a b c : Value} {P : Params} {Q : Value → Shared → Prop} (X : (hd.heap_39 P).In s.heap) (x : ErrObj s.heap e a b c) (hu : A.units < cLine)
    (hc : wpAny (model prog w) A (call (.ref 109) [.ref e]) (fun r s₁ => ∃ y t, r = .str y t ∧ Q r s₁) E s) : wpAny (model prog w) A (PySem.Builtin.Str.strOf (.ref e)) Q E s := by
  obtain ⟨eo, dx, od, h1, h2, h3, h4, h5, h6, h7, _⟩ := x
  have hfn : ∃ oI, s.heap.get? 109 = some oI ∧ oI.cls = .type "function" := ⟨_, X 109 _ rfl, rfl⟩
  obtain ⟨oI, hI, hIc⟩ := hfn
  obtain ⟨h, g, d, t, os⟩ := s
  obtain ⟨nm, q, bs, sub, k0, k1, k2, k3, k5, hC⟩ := err_cls X
  unfold PySem.Builtin.Str.strOf
  rw [show isExactStr (.ref e) = false from rfl]
  refine wpAny_bind (m := cRoomFor _ _) (wpAny_cRoomFor hu ?_)
  refine wpAny_bind (m := callSpecial? (.ref e) (Str.ofString "__str__")) ?_
  have hB : ∃ y, typeLookup (.type "Exception") (Str.ofString "__str__") = pure y := ⟨some (.builtin "BaseException.__str__"), by rw [typeLookup_type, builtinLookup_eq_fast]; kernel_rfl⟩
  obtain ⟨y, hB⟩ := hB
  refine wpAny_callSpecial?_own (B := "Exception") (f := 109) (C := 112) ⟨eo, oI, nm, q, 111, bs, errMro, true, [], sub, false, none, none, k0, k1, k2, k3, k5, _, _, y, h1, h2, hC, err_ns X, err_str X, hI, hIc, PySem.F.excBase_Exception.mroIs, hB⟩ ?_
  refine wpAny_mono hc (fun r s₁ h₁ => ?_) fun _ _ e => e
  obtain ⟨z, t, rfl, hq⟩ := h₁
  exact wpAny_bind (m := asStr? (.str z t)) (wpAny_pure (wpAny_pure hq))
open PySem.Builtin in
theorem str_of_err {prog : Program} {w : World} {A : Around} {E : Value → Shared → Prop} {s : Shared} {e : Addr} {a b c : Value} {P : Params} {Q : Value → Shared → Prop} (X : (hd.heap_39 P).In s.heap) (x : ErrObj s.heap e a b c) (hu : A.units + 2 < cLine)
    (hc : wpAny (model prog w) A.in1.in1 (call (.ref 109) [.ref e]) (fun r s₁ => ∃ y t, r = .str y t ∧ Q r s₁) E s) : wpAny (model prog w) A (call (.type "str") [.ref e]) Q E s := by
  refine callType_newIn (S := fun A R s => (hd.heap_39 P).In s.heap ∧ ErrObj s.heap e a b c ∧ A.units + 1 < cLine ∧ wpAny (model prog w) A.in1 (call (.ref 109) [.ref e]) (fun r s₁ => ∃ y t, r = .str y t ∧ R (.ok (.ret r)) s₁) (fun e s' => R (.error e) s') s)
    PySem.F.called_str (by decide) (PySem.F.typeCall_str_1 _) (PySem.F.newCall_str_1 _) (fun obj => PySem.F.args_object_init_2 obj _) PySem.F.entry_str_new (.of_wp fun A R s h => ?_) ⟨X, x, hu, ?_⟩
  · rw [PySem.str_new_tree]
    refine wpAny_bind (wpAny_pure ?_)
    refine wpAny_bind (wpAny_of_eq isSubtype_str_str ?_)
    refine wpAny_bind (wpAny_mono (strOf_err (A := A.in1) (Q := fun r s' => R (.ok (.ret r)) s') h.1 h.2.1 h.2.2.1 h.2.2.2) (fun r s' h' => wpAny_pure ⟨_, rfl, h'⟩) fun _ _ e => e)
  · refine wpAny_mono hc (fun r s₁ h₁ => ?_) fun _ _ e => e
    obtain ⟨y, t, rfl, hq⟩ := h₁
    exact ⟨y, t, rfl, typeIs_str _ _ _, hq⟩

end
section
theorem calm_E9 : True := by
  w_top off
  trivial
theorem safe_go : ∀ (w : World) (dp un : Nat) (gd : Option (List Code)) (A₀ : Around) (base h₀ : Heap) (outer : List Env) (env : Env) (L : Addr) (m : Str → Option Value) (s : Shared) (p : Program) (loose : List Str) (mean : ExcName → Option Value) (mg mb : Str → Option Value) (tr : Tree),
    (hd.heap_39 w.params).In h₀ → Below A₀ base outer h₀ → Fr h₀ L s.heap m → Top p loose mean mg mb h₀ → env.frame = some L → env.scope.kind = .function → dp + tr.depth + 5 < recursionLimit → un + 10 * tr.depth + 100 < cLine →
    ∀ (e : Addr) (x : Str) (tx : Tok) (R : Result → Shared → Prop), ErrTree s.heap tr (.ref e) → tr.shown.length ≤ 100000 → tr.small →
    (∀ h' t' u, Stays s.heap h' → R (.ok (.ret (.str tr.shown u))) { s with heap := h', toks := t' }) →
    codeAny (model PySem.Challenge.rw_kl0472_01.row.prog w) ⟨none, dp, some (env :: outer), gd, un⟩ (.call (.ref 123) ⟨[.ref e, .str x tx], []⟩) R s := by
  k_fill
  intro w dp un gd A₀ base h₀ outer env L m s p loose mean mg mb tr X B F T0 hf hke hroom hu e x tx R htr hz hs k
  have hroom0 : dp < recursionLimit := by lia
  have hN : News h₀ L s.heap [] := News.nil
  k_dflt (refine' code_mine (K := hd.heap_39 w.params) ?k1 ?k2 ?k3 ?k4 ?k5 ?kA ?kF ?kK ?k6 ?k7 ?k8 ?k9 ?kB ?_ ?c2 ?c3 ?c4 ?c5; (case kA => exact rfl); (case kF => exact hf); (case kK => exact hke); (case k1 => k_asm); (case k2 => k_asm); (case k3 => k_asm); (case k4 => k_asm); (case k5 => k_asm); (case k6 => k_is); (case k7 => k_is); (case k8 => exact hroom0); (case k9 => first | exact BindsTo.of_eq rfl | exact binds_K (by k_in) rfl (by k_is) rfl rfl rfl); (case c5 => decide); (case kB => exact locs rfl); (case c2 => exact rfl); (case c3 => exact rfl); (case c4 => exact rfl); k_whole; intro g' L' h' kp st F' N' B' X' T'; (try dsimp only); (try k_fold))
  have kg : Stays s.heap g' := fun b o q => kp b o (fun z => nomatch z) q
  replace htr := htr.stay (kg.but _)
  k_steps
  (with_reducible rename Fr g' _ _ _ => kF)
  cases tr with
  | leaf gg n v =>
    cases gg with
    | int n => obtain ⟨t, q⟩ := htr; cases q
    | none => cases htr
    | word y => obtain ⟨t, q⟩ := htr; cases q
  | node a b c =>
    have htr' := htr
    obtain ⟨e', va, vb, vc, he, hE, _⟩ := htr'
    cases he
    refine str_of_err (X'.keeps kF.keep) (hE.stay fun b o _ q => kF.keep b o q) (by show un + 3 + 2 < cLine; lia) ?_
    refine wpAny_call (str_go (.node a b c) w (dp + 1) (un + 3 + 1 + 1) gd _ _ g' _ _ _ _ _ _ _ _ _ _ X' B' kF T' rfl rfl (by lia) (by lia) e _ (htr.stay fun b o _ q => kF.keep b o q) hz hs ?_)
    intro h' t' u st1
    exact ⟨_, _, rfl, k h' t' u fun b o q => st1 b o (kF.keep b o (kg b o q))⟩

end
section
/-- a tree, as the law holds it: a leaf is a tuple of three, a node a list of three -/
noncomputable def TreeH (h : Heap) : Tree → Value → Prop
  | .leaf g name val, v => ∃ a gv t vv, v = .ref a ∧ a ∉ [65, 82] ∧ h.get? a = some (tupOf [gv, .str name t, vv]) ∧ ThingIs g gv ∧ ValIs val vv
  | .node a b c, v => ∃ x va vb vc n, v = .ref x ∧ x ∉ [65, 82] ∧ h.get? x = some (listOf #[va, vb, vc] n) ∧ TreeH h a va ∧ TreeH h b vb ∧ TreeH h c vc
theorem TreeH.stay {h h' : Heap} (k : But [65, 82] h h') : ∀ {t : Tree} {v : Value}, TreeH h t v → TreeH h' t v := by
  intro t
  induction t with
  | leaf _ _ _ =>
    rintro v ⟨a, gv, t, vv, h1, h2, h3, h4⟩
    exact ⟨a, gv, t, vv, h1, h2, k _ _ h2 h3, h4⟩
  | node _ _ _ ia ib ic =>
    rintro v ⟨x, va, vb, vc, n, h1, h2, h3, h4, h5, h6⟩
    exact ⟨x, va, vb, vc, n, h1, h2, k _ _ h2 h3, ia h4, ib h5, ic h6⟩
section
variable {prog : Program} {w : World} {A : Around} {E : Value → Shared → Prop} {s : Shared} {g : Heap} {L a : Addr} {m : Str → Option Value}
theorem tup_base {vs : List Value} (F : Fr g L s.heap m) (e : g.get? a = some (tupOf vs)) : IsTup s.heap a vs.toArray := ⟨_, F.keep _ _ e, rfl, _, rfl⟩
theorem lst_base {its : Array Value} {n : Nat} (F : Fr g L s.heap m) (e : g.get? a = some (listOf its n)) : s.heap.IsList a its := ⟨_, F.keep _ _ e, rfl, _, rfl⟩
theorem isi_tup {vs : List Value} {Q : Value → Shared → Prop} (F : Fr g L s.heap m) (e : g.get? a = some (tupOf vs)) (h : Q (.bool true) s) : wpAny (model prog w) A (call (.builtin "isinstance") [.ref a, .type "tuple"]) Q E s := IsiPair.tuple_tuple (F.keep _ _ e) rfl h
theorem isi_lst {its : Array Value} {n : Nat} {Q : Value → Shared → Prop} (F : Fr g L s.heap m) (e : g.get? a = some (listOf its n)) (h : ∀ t, Q (.bool false) { s with toks := t }) : wpAny (model prog w) A (call (.builtin "isinstance") [.ref a, .type "tuple"]) Q E s := IsiPair.list_tuple (F.keep _ _ e) rfl (h _)
theorem isl_tup {vs : List Value} {Q : Value → Shared → Prop} (F : Fr g L s.heap m) (e : g.get? a = some (tupOf vs)) (h : ∀ t, Q (.bool false) { s with toks := t }) : wpAny (model prog w) A (call (.builtin "isinstance") [.ref a, .type "list"]) Q E s := IsiPair.tuple_list (F.keep _ _ e) rfl (h _)
theorem isl_lst {its : Array Value} {n : Nat} {Q : Value → Shared → Prop} (F : Fr g L s.heap m) (e : g.get? a = some (listOf its n)) (h : Q (.bool true) s) : wpAny (model prog w) A (call (.builtin "isinstance") [.ref a, .type "list"]) Q E s := IsiPair.list_list (F.keep _ _ e) rfl h
theorem tup_item {value slice : PySem.Expr} {k : Int} {u : Tok} {j : Nat} {vs : List Value} {x : Value} {Q : Value → Shared → Prop} (F : Fr g L s.heap m) (e : g.get? a = some (tupOf vs)) (hlo : -(2 ^ 63) ≤ k) (hhi : k < 2 ^ 63) (hj : seqIndex? k vs.length = some j) (hx : vs[j]? = some x)
    (hs : subscripted slice false (.ref a) (.int k u) = operate [.ref a, .int k u] (getItem (.ref a) (.int k u))) (hg : ∀ r, letTemporaryGo value (.ref a) r = pure ()) (h : Q x s) : wpAny (model prog w) A (subscriptTail value slice (.ref a) (.int k u)) Q E s :=
  item_tupleL (tup_base F e) hlo hhi hj hx h hs hg
theorem lst_item {value slice : PySem.Expr} {k : Int} {u : Tok} {its : Array Value} {n : Nat} {x : Value} {Q : Value → Shared → Prop} (F : Fr g L s.heap m) (e : g.get? a = some (listOf its n)) (hlo : 0 ≤ k) (hhi : k < 2 ^ 63) (hx : its[k.toNat]? = some x)
    (hs : subscripted slice false (.ref a) (.int k u) = operate [.ref a, .int k u] (getItem (.ref a) (.int k u))) (hg : ∀ r, letTemporaryGo value (.ref a) r = pure ()) (h : Q x s) : wpAny (model prog w) A (subscriptTail value slice (.ref a) (.int k u)) Q E s :=
  item_list (lst_base F e) hlo hhi hx h hs hg
theorem tuple_y {vs : List Value} {news : List (Addr × Obj)} {Q : Value → Shared → Prop} (F : Fr g L s.heap m) (N : News g L s.heap news) (hz : vs.length ≤ sizeLine)
    (h : ∀ D h', Fr g L h' m → News g L h' ((D, ({ cls := .type "tuple", data := .seq vs.toArray } : Obj)) :: news) → (∀ p ∈ news, p.1 < D) → Q (.ref D) { s with heap := h' }) : wpAny (model prog w) A (newTuple vs) Q E s := kup_newTuple F N h hz
end

end
section
local macro_rules | `(tactic| walk_at "fe") => `(tactic| (k_asm; assumption))
local macro_rules | `(tactic| walk_at "call builtin:isinstance") => `(tactic| (k_here; k_dflt (first | ((with_reducible apply isi_tup); walk_at "fe") | ((with_reducible apply isi_lst); walk_at "fe") | ((with_reducible apply isl_tup); walk_at "fe") | ((with_reducible apply isl_lst); walk_at "fe")); intros))
local macro_rules | `(tactic| walk_at "item") => `(tactic| (exact rfl; with_unfolding_all rfl; kmk_pure))
local macro_rules | `(tactic| walk_at "subscriptTail Name Constant ref int") => `(tactic| (k_here; k_dflt (first | ((with_reducible apply tup_item); walk_at "fe"; decide; decide; exact rfl; walk_at "item") | ((with_reducible apply lst_item); walk_at "fe"; decide; decide; walk_at "item"))))
local macro_rules | `(tactic| walk_at "newTuple") => `(tactic| (k_here; k_dflt ((with_reducible apply tuple_y); k_asm; k_asm; kmk_size; walk_at "lt")))
section
theorem calm_E11 : True := by
  w_top off
  trivial
/-- what _law_error makes of a tree -/
noncomputable def ErrOk (t : Tree) : Prop := ∀ (w : World) (dp un : Nat) (gd : Option (List Code)) (A₀ : Around) (base h₀ : Heap) (outer : List Env) (env : Env) (L : Addr) (m : Str → Option Value) (s : Shared) (p : Program) (loose : List Str) (mean : ExcName → Option Value) (mg mb : Str → Option Value),
    (hd.heap_39 w.params).In h₀ → Below A₀ base outer h₀ → Fr h₀ L s.heap m → Top p loose mean mg mb h₀ → env.frame = some L → env.scope.kind = .function → dp + t.depth + 3 < recursionLimit →
    ∀ (v : Value) (R : Result → Shared → Prop) (o65 o82 : Obj), TreeH s.heap t v → s.heap.get? 65 = some o65 → s.heap.get? 82 = some o82 →
    (∀ h' t' v', Stays s.heap h' → ErrTree h' t v' → R (.ok (.ret v')) { s with heap := h', toks := t' }) →
    codeAny (model PySem.Challenge.rw_kl0472_01.row.prog w) ⟨none, dp, some (env :: outer), gd, un⟩ (.call (.ref 147) ⟨[v], []⟩) R s
theorem error_leaf (g : Thing) (name : Str) (val : Option Str) : ErrOk (.leaf g name val) := by
  unfold ErrOk
  k_fill
  intro w dp un gd A₀ base h₀ outer env L m s p loose mean mg mb X B F T0 hf hke hroom v R o65 o82 htr h65 h82 k
  obtain ⟨a, gv, t, vv, rfl, ha, hg, hgv, hvv⟩ := htr
  have hroom0 : dp < recursionLimit := by lia
  have hN : News h₀ L s.heap [] := News.nil
  k_dflt (refine' code_mine (K := hd.heap_39 w.params) ?k1 ?k2 ?k3 ?k4 ?k5 ?kA ?kF ?kK ?k6 ?k7 ?k8 ?k9 ?kB ?_ ?c2 ?c3 ?c4 ?c5; (case kA => exact rfl); (case kF => exact hf); (case kK => exact hke); (case k1 => k_asm); (case k2 => k_asm); (case k3 => k_asm); (case k4 => k_asm); (case k5 => k_asm); (case k6 => k_is); (case k7 => k_is); (case k8 => exact hroom0); (case k9 => first | exact BindsTo.of_eq rfl | exact binds_K (by k_in) rfl (by k_is) rfl rfl rfl); (case c5 => decide); (case kB => exact locs rfl); (case c2 => exact rfl); (case c3 => exact rfl); (case c4 => exact rfl); k_whole; intro g' L' h' kp st F' N' B' X' T'; (try dsimp only); (try k_fold))
  have kg : Stays s.heap g' := fun b o q => kp b o (fun z => nomatch z) q
  replace hg := kg _ _ hg
  k_steps
  exact k _ _ _ (fun b o q => Fr.keep (h₀ := g') (by assumption) b o (kg b o q)) hgv
theorem error_node {x y z : Tree} (ihx : ErrOk x) (ihy : ErrOk y) (ihz : ErrOk z) : ErrOk (.node x y z) := by
  unfold ErrOk
  k_fill
  intro w dp un gd A₀ base h₀ outer env L m s p loose mean mg mb X B F T0 hf hke hroom v R o65 o82 htr h65 h82 k
  obtain ⟨a, va, vb, vc, n, rfl, ha, hg, hx, hy, hz⟩ := htr
  have hd1 : x.depth + 1 ≤ (Tree.node x y z).depth := by show _ ≤ 1 + max x.depth (max y.depth z.depth); lia
  have hd2 : y.depth + 1 ≤ (Tree.node x y z).depth := by show _ ≤ 1 + max x.depth (max y.depth z.depth); lia
  have hd3 : z.depth + 1 ≤ (Tree.node x y z).depth := by show _ ≤ 1 + max x.depth (max y.depth z.depth); lia
  have hroom0 : dp < recursionLimit := by lia
  have hN : News h₀ L s.heap [] := News.nil
  k_dflt (refine' code_mine (K := hd.heap_39 w.params) ?k1 ?k2 ?k3 ?k4 ?k5 ?kA ?kF ?kK ?k6 ?k7 ?k8 ?k9 ?kB ?_ ?c2 ?c3 ?c4 ?c5; (case kA => exact rfl); (case kF => exact hf); (case kK => exact hke); (case k1 => k_asm); (case k2 => k_asm); (case k3 => k_asm); (case k4 => k_asm); (case k5 => k_asm); (case k6 => k_is); (case k7 => k_is); (case k8 => exact hroom0); (case k9 => first | exact BindsTo.of_eq rfl | exact binds_K (by k_in) rfl (by k_is) rfl rfl rfl); (case c5 => decide); (case kB => exact locs rfl); (case c2 => exact rfl); (case c3 => exact rfl); (case c4 => exact rfl); k_whole; intro g' L' h' kp st F' N' B' X' T'; (try dsimp only); (try k_fold))
  have kg : Stays s.heap g' := fun b o q => kp b o (fun z => nomatch z) q
  replace hg := kg _ _ hg
  replace hx := hx.stay (kg.but _)
  replace hy := hy.stay (kg.but _)
  replace hz := hz.stay (kg.but _)
  k_steps
  (with_reducible rename Fr g' _ _ _ => kF1)
  refine wpAny_call (ihx w (dp + 1) _ gd _ _ g' _ _ _ _ _ _ _ _ _ _ X' B' kF1 T' rfl rfl (by lia) _ _ o65 o82 (hx.stay fun b o _ q => kF1.keep b o q) (kF1.keep _ _ (kg _ _ h65)) (kF1.keep _ _ (kg _ _ h82)) ?_)
  intro h1 t1 v1 st1 e1
  have F1 : Fr g' L' h1 _ := ⟨kF1.ns.keeps st1, fun b o q => st1 b o (kF1.keep b o q), kF1.above⟩
  have N1 : News g' L' h1 [] := News.nil
  clear kF1
  dsimp only
  k_steps
  (with_reducible rename Fr g' _ _ _ => kF2)
  refine wpAny_call (ihy w (dp + 1) _ gd _ _ g' _ _ _ _ _ _ _ _ _ _ X' B' kF2 T' rfl rfl (by lia) _ _ o65 o82 (hy.stay fun b o _ q => kF2.keep b o q) (kF2.keep _ _ (kg _ _ h65)) (kF2.keep _ _ (kg _ _ h82)) ?_)
  intro h2 t2 v2 st2 e2
  have F2 : Fr g' L' h2 _ := ⟨kF2.ns.keeps st2, fun b o q => st2 b o (kF2.keep b o q), kF2.above⟩
  have N2 : News g' L' h2 [] := News.nil
  clear kF2
  dsimp only
  k_steps
  (with_reducible rename Fr g' _ _ _ => kF3)
  refine wpAny_call (ihz w (dp + 1) _ gd _ _ g' _ _ _ _ _ _ _ _ _ _ X' B' kF3 T' rfl rfl (by lia) _ _ o65 o82 (hz.stay fun b o _ q => kF3.keep b o q) (kF3.keep _ _ (kg _ _ h65)) (kF3.keep _ _ (kg _ _ h82)) ?_)
  intro h3 t3 v3 st3 e3
  have F3 : Fr g' L' h3 _ := ⟨kF3.ns.keeps st3, fun b o q => st3 b o (kF3.keep b o q), kF3.above⟩
  have N3 : News g' L' h3 [] := News.nil
  clear kF3
  dsimp only
  k_steps
  (with_reducible rename Fr g' _ _ _ => kF)
  have hroom2 : dp + 1 + 1 < recursionLimit := by lia
  refine err_make rfl kF X' B' T' rfl rfl hroom2 (kF.keep _ _ (kg _ _ h65)) (kF.keep _ _ (kg _ _ h82)) ?_
  intro h4 t4 e st4 hE _
  refine k h4 _ _ (fun b o q => st4 b o (kF.keep b o (kg b o q))) ⟨e, _, _, _, rfl, hE, ?_, ?_, ?_⟩
  · exact e1.stay fun b o _ q => st4 b o (st3 b o (st2 b o q))
  · exact e2.stay fun b o _ q => st4 b o (st3 b o q)
  · exact e3.stay fun b o _ q => st4 b o q
theorem error_go : ∀ t : Tree, ErrOk t := by
  intro t
  induction t with
  | leaf g n v => exact error_leaf g n v
  | node x y z hx hy hz => exact error_node hx hy hz

end
section
/-! the plain law, part one: texts as lists of codes -/
theorem getD_drop (T : Array Nat) (p i : Nat) : T.getD (p + i) 0 = (T.toList.drop p).getD i 0 := by
  simp [Array.getD_eq_getD_getElem?, List.getD_eq_getElem?_getD, List.getElem?_drop]
theorem size_drop {T : Array Nat} {p : Nat} {l : List Nat} (h : T.toList.drop p = l) (hp : p ≤ T.size) : T.size = p + l.length := by
  rw [← h, List.length_drop, Array.length_toList]; lia
theorem drop_more {T : Array Nat} {p : Nat} {a b : List Nat} (h : T.toList.drop p = a ++ b) : T.toList.drop (p + a.length) = b := by
  rw [← List.drop_drop, h, List.drop_left]
theorem extract_part {T : Array Nat} {p q : Nat} {a b : List Nat} (h : T.toList.drop p = a ++ b) (hq : q = p + a.length) : T.extract p q = a.toArray := by
  apply Array.ext'
  rw [Array.toList_extract, List.extract_eq_drop_take, h, hq, Nat.add_sub_cancel_left, List.take_left]
theorem join_cps : ∀ l : List Str, (PySem.Txt.join ⟨#[]⟩ l).cps.toList = l.flatMap (fun x => x.cps.toList) := by
  intro l
  show (PySem.Builtin.Str.glued _ l).cps.toList = _
  rw [StrLaws.glued_eq_join]
  induction l with
  | nil => rfl
  | cons x r ih =>
    cases r with
    | nil => simp [Str.join]
    | cons y r =>
      show (x ++ (⟨#[]⟩ : Str) ++ Str.join ⟨#[]⟩ (y :: r)).cps.toList = _
      rw [PySem.Str.cps_append, PySem.Str.cps_append, Array.toList_append, Array.toList_append, ih]
      simp
/-- a text's marks and backslashes, each behind a backslash -/
noncomputable def esc (v : List Nat) : List Nat := v.flatMap fun c => if esc2 c then [92, c] else [c]
/-- up to the next sign of a kind -/
theorem next_sign (p : Nat → Bool) : ∀ l : List Nat, (∀ c ∈ l, p c = false) ∨ ∃ a c b, l = a ++ c :: b ∧ (∀ x ∈ a, p x = false) ∧ p c = true
  | [] => .inl fun _ h => nomatch h
  | x :: l => by
    by_cases hx : p x = true
    · exact .inr ⟨[], x, l, rfl, (fun _ h => nomatch h), hx⟩
    · rcases next_sign p l with h | ⟨a, c, b, rfl, h1, h2⟩
      · refine .inl fun c hc => ?_
        rcases List.mem_cons.mp hc with rfl | hc
        · simpa using hx
        · exact h c hc
      · refine .inr ⟨x :: a, c, b, rfl, fun y hy => ?_, h2⟩
        rcases List.mem_cons.mp hy with rfl | hy
        · simpa using hx
        · exact h1 y hy
theorem esc_plain {a : List Nat} (h : ∀ x ∈ a, esc2 x = false) : esc a = a := by
  induction a with
  | nil => rfl
  | cons x a ih =>
    unfold esc at *
    rw [List.flatMap_cons, h x (.head _), ih fun y hy => h y (.tail _ hy)]
    rfl
theorem esc_append (a b : List Nat) : esc (a ++ b) = esc a ++ esc b := by unfold esc; rw [List.flatMap_append]

theorem all_from {T : Array Nat} {p : Nat} {l : List Nat} (h : T.toList.drop p = l) {P : Nat → Prop} (k : ∀ x ∈ l, P x) : ∀ q, p ≤ q → q < T.size → P (T.getD q 0) := by
  intro q h1 h2
  have e : q = p + (q - p) := by lia
  have hs := size_drop h (by lia)
  rw [e, getD_drop, h, List.getD_eq_getElem?_getD, List.getElem?_eq_getElem (by lia)]
  exact k _ (List.getElem_mem _)
theorem all_head {T : Array Nat} {p : Nat} {a b : List Nat} (h : T.toList.drop p = a ++ b) {P : Nat → Prop} (k : ∀ x ∈ a, P x) : ∀ q, q < a.length → P (T.getD (p + q) 0) := by
  intro q hq
  rw [getD_drop, h, List.getD_eq_getElem?_getD, List.getElem?_append_left hq, List.getElem?_eq_getElem hq]
  exact k _ (List.getElem_mem _)
theorem at_head {T : Array Nat} {p : Nat} {a b : List Nat} {c : Nat} (h : T.toList.drop p = a ++ c :: b) : T.getD (p + a.length) 0 = c := by
  rw [getD_drop, h, List.getD_eq_getElem?_getD, List.getElem?_append_right (Nat.le_refl _)]
  simp
/-- the escapes are written: what join's sub makes -/
theorem write_run (T : Array Nat) (hz : T.size ≤ 100000) : ∀ (n p : Nat) (l : List Nat), l.length ≤ n → T.toList.drop p = l → p ≤ T.size → ∃ out, SubRun CJE T [92] p out ∧ out.flatMap (fun x => x.cps.toList) = esc l ∧ weight out ≤ 2 * l.length ∧ out.length ≤ 2 * l.length + 1 := by
  intro n
  induction n with
  | zero =>
    intro p l hl h hp
    have : l = [] := List.eq_nil_of_length_eq_zero (by lia)
    subst this
    have hs := size_drop h hp
    simp only [List.length_nil, Nat.add_zero] at hs
    refine ⟨_, .stop hp (N := 20) (by decide) (je_lost p hz hp fun q h1 h2 => by lia), ?_, ?_, ?_⟩
    · rw [if_neg (by lia)]; rfl
    · rw [if_neg (by lia)]; exact Nat.le_refl _
    · rw [if_neg (by lia)]; simp
  | succ n ih =>
    intro p l hl h hp
    have hs := size_drop h hp
    rcases next_sign esc2 l with hno | ⟨a, c, b, rfl, ha, hc⟩
    · refine ⟨_, .stop hp (N := 20) (by decide) (je_lost p hz hp (all_from h hno)), ?_, ?_, ?_⟩
      · rw [esc_plain hno]
        by_cases q : p < T.size
        · rw [if_pos q]
          have : T.extract p T.size = l.toArray := extract_part (b := []) (by rw [h, List.append_nil]) hs
          simp [this]
        · rw [if_neg q]
          have : l = [] := List.eq_nil_of_length_eq_zero (by lia)
          rw [this]; rfl
      · by_cases q : p < T.size
        · rw [if_pos q]
          have : T.extract p T.size = l.toArray := extract_part (b := []) (by rw [h, List.append_nil]) hs
          rw [this]
          show (l.toArray.size + 0 : Nat) ≤ _
          rw [List.size_toArray]; lia
        · rw [if_neg q]; exact Nat.zero_le _
      · split <;> simp
    · have hlen : (a ++ c :: b).length = a.length + 1 + b.length := by simp; lia
      have h2 : T.toList.drop (p + a.length + 1) = b := by
        have := drop_more (a := a ++ [c]) (b := b) (by rw [h]; simp)
        rw [List.length_append, List.length_singleton, ← Nat.add_assoc] at this
        exact this
      obtain ⟨out, r1, r2, r3, r4⟩ := ih (p + a.length + 1) b (by lia) h2 (by lia)
      have won := je_won p a.length hz (all_head h ha) (by rw [at_head h]; exact hc) (by lia)
      have e1 : T.extract p (p + a.length) = a.toArray := extract_part h rfl
      have e2 : T.extract (p + a.length) (p + a.length + 1) = [c].toArray := extract_part (a := [c]) (b := b) (by rw [drop_more h]; rfl) rfl
      have e3 : esc (a ++ c :: b) = a ++ 92 :: c :: esc b := by
        rw [esc_append, esc_plain ha]
        unfold esc
        rw [List.flatMap_cons, if_pos hc]
        rfl
      refine ⟨_, .next (done := p) (N := 20) (a := p + a.length) (b := p + a.length + 1) (c := p + a.length) (d := p + a.length + 1) (by lia) (by lia) (by lia) (by lia) (by decide) won r1, ?_, ?_, ?_⟩
      · rw [e1, e2, e3, List.flatMap_append, List.flatMap_cons, r2]
        by_cases q : 0 < a.length
        · rw [if_pos (by lia)]; simp
        · rw [if_neg (by lia)]
          have : a = [] := List.eq_nil_of_length_eq_zero (by lia)
          subst this; simp
      · have hw : ∀ (u v : List Str), weight (u ++ v) = weight u + weight v := fun u v => by unfold weight; rw [List.map_append, List.sum_append]
        have hc1 : ∀ (u : Str) (v : List Str), weight (u :: v) = u.length + weight v := fun u v => rfl
        rw [hw, hc1, e1, e2, hlen]
        have h3 : (⟨([92] ++ [c].toArray.toList).toArray⟩ : Str).length = 2 := rfl
        rw [h3]
        by_cases q : 0 < a.length
        · rw [if_pos (by lia)]
          have h4 : weight [(⟨a.toArray⟩ : Str)] = a.length := by show (a.toArray.size + 0 : Nat) = _; rw [List.size_toArray]; lia
          rw [h4]; lia
        · rw [if_neg (by lia)]
          have h4 : weight [] = 0 := rfl
          rw [h4]; lia
      · rw [List.length_append, List.length_cons, hlen]
        split <;> simp <;> lia
theorem esc2_ne {c : Nat} (h : esc2 c = false) : c ≠ 92 := by
  intro q; subst q; exact absurd h (by decide)
theorem esc_mark {a b : List Nat} {c : Nat} (ha : ∀ x ∈ a, esc2 x = false) (hc : esc2 c = true) : esc (a ++ c :: b) = a ++ 92 :: c :: esc b := by
  rw [esc_append, esc_plain ha]
  unfold esc
  rw [List.flatMap_cons, if_pos hc]
  rfl
/-- the escapes are read back: what split's sub makes -/
theorem read_run (T : Array Nat) (hz : T.size ≤ 100000) : ∀ (n p : Nat) (l : List Nat), l.length ≤ n → T.toList.drop p = esc l → p ≤ T.size → ∃ out, SubRun CE T [] p out ∧ out.flatMap (fun x => x.cps.toList) = l ∧ weight out ≤ l.length ∧ out.length ≤ 2 * l.length + 1 := by
  intro n
  induction n with
  | zero =>
    intro p l hl h hp
    have : l = [] := List.eq_nil_of_length_eq_zero (by lia)
    subst this
    have hs := size_drop h hp
    have h0 : (esc []).length = 0 := rfl
    rw [h0, Nat.add_zero] at hs
    refine ⟨_, .stop hp (N := 2 * T.size + 20) (Nat.le_trans (by lia : _ ≤ 200020) (by decide)) (esc_lost p hz hp fun q h1 h2 => by lia), ?_, ?_, ?_⟩
    · rw [if_neg (by lia)]; rfl
    · rw [if_neg (by lia)]; exact Nat.le_refl _
    · rw [if_neg (by lia)]; simp
  | succ n ih =>
    intro p l hl h hp
    have hs := size_drop h hp
    rcases next_sign esc2 l with hno | ⟨a, c, b, rfl, ha, hc⟩
    · rw [esc_plain hno] at h hs
      refine ⟨_, .stop hp (N := 2 * T.size + 20) (Nat.le_trans (by lia : _ ≤ 200020) (by decide)) (esc_lost p hz hp (all_from h fun x hx => esc2_ne (hno x hx))), ?_, ?_, ?_⟩
      · by_cases q : p < T.size
        · rw [if_pos q]
          have : T.extract p T.size = l.toArray := extract_part (b := []) (by rw [h, List.append_nil]) hs
          simp [this]
        · rw [if_neg q]
          have : l = [] := List.eq_nil_of_length_eq_zero (by lia)
          rw [this]; rfl
      · by_cases q : p < T.size
        · rw [if_pos q]
          have : T.extract p T.size = l.toArray := extract_part (b := []) (by rw [h, List.append_nil]) hs
          rw [this]
          show (l.toArray.size + 0 : Nat) ≤ _
          rw [List.size_toArray]; lia
        · rw [if_neg q]; exact Nat.zero_le _
      · split <;> simp
    · have hlen : (a ++ c :: b).length = a.length + 1 + b.length := by simp; lia
      rw [esc_mark ha hc] at h hs
      have hlen2 : (a ++ 92 :: c :: esc b).length = a.length + 2 + (esc b).length := by simp; lia
      rw [hlen2] at hs
      have h2 : T.toList.drop (p + a.length + 2) = esc b := by
        have := drop_more (a := a ++ [92, c]) (b := esc b) (by rw [h]; simp)
        rw [List.length_append] at this
        exact this
      obtain ⟨out, r1, r2, r3, r4⟩ := ih (p + a.length + 2) b (by lia) h2 (by lia)
      have hc1 : T.getD (p + a.length + 1) 0 = c := by
        have := at_head (a := a ++ [92]) (c := c) (b := esc b) (by rw [h]; simp)
        rw [List.length_append, List.length_singleton, ← Nat.add_assoc] at this
        exact this
      have hc10 : c ≠ 10 := fun q => by subst q; exact absurd hc (by decide)
      have won := esc_won p a.length hz (all_head h fun x hx => esc2_ne (ha x hx)) (at_head h) (by lia) (by rw [hc1]; exact hc10)
      have e1 : T.extract p (p + a.length) = a.toArray := extract_part h rfl
      have e2 : T.extract (p + a.length + 1) (p + a.length + 2) = [c].toArray := extract_part (a := [c]) (b := esc b) (by
        have := drop_more (a := a ++ [92]) (b := c :: esc b) (by rw [h]; simp)
        rw [List.length_append, List.length_singleton, ← Nat.add_assoc] at this
        exact this) rfl
      refine ⟨_, .next (done := p) (N := 2 * T.size + 20) (a := p + a.length) (b := p + a.length + 2) (c := p + a.length + 1) (d := p + a.length + 2) (by lia) (by lia) (by lia) (by lia) (Nat.le_trans (by lia : _ ≤ 200020) (by decide)) won r1, ?_, ?_, ?_⟩
      · rw [e1, e2, List.flatMap_append, List.flatMap_cons, r2]
        by_cases q : 0 < a.length
        · rw [if_pos (by lia)]; simp
        · rw [if_neg (by lia)]
          have : a = [] := List.eq_nil_of_length_eq_zero (by lia)
          subst this; simp
      · have hw : ∀ (u v : List Str), weight (u ++ v) = weight u + weight v := fun u v => by unfold weight; rw [List.map_append, List.sum_append]
        have hc1 : ∀ (u : Str) (v : List Str), weight (u :: v) = u.length + weight v := fun u v => rfl
        rw [hw, hc1, e1, e2, hlen]
        have h3 : (⟨([] ++ [c].toArray.toList).toArray⟩ : Str).length = 1 := rfl
        rw [h3]
        by_cases q : 0 < a.length
        · rw [if_pos (by lia)]
          have h4 : weight [(⟨a.toArray⟩ : Str)] = a.length := by show (a.toArray.size + 0 : Nat) = _; rw [List.size_toArray]; lia
          rw [h4]; lia
        · rw [if_neg (by lia)]
          have h4 : weight [] = 0 := rfl
          rw [h4]; lia
      · rw [List.length_append, List.length_cons, hlen]
        split <;> simp <;> lia

end
section
theorem quoc_of {c : Nat} (h : esc2 c = false) : quoc c = true := by
  have : quoc c = !esc2 c := rfl
  rw [this, h]; rfl
theorem quoc_no {c : Nat} (h : esc2 c = true) : quoc c = false := by
  have : quoc c = !esc2 c := rfl
  rw [this, h]; rfl
theorem at_get {T : Array Nat} {p : Nat} {a b : List Nat} {c : Nat} (h : T.toList.drop p = a ++ c :: b) {q : Nat} (hq : q = p + a.length) : T.getD q 0 = c := by
  rw [hq]; exact at_head h
theorem escs_of (T : Array Nat) (hz : T.size ≤ 100000) (rest : List Nat) : ∀ (n p : Nat) (l : List Nat), l.length ≤ n → T.toList.drop p = esc l ++ 34 :: rest → p ≤ T.size →
    ∃ j k, (∀ q, q < j → quoc (T.getD (p + q) 0) = true) ∧ quoc (T.getD (p + j) 0) = false ∧ Escs T (p + j) (p + (esc l).length) k ∧ k ≤ l.length := by
  intro n
  induction n with
  | zero =>
    intro p l hl h hp
    have : l = [] := List.eq_nil_of_length_eq_zero (by lia)
    subst this
    have hs := size_drop h hp
    have e := at_get (a := []) (c := 34) (b := rest) h (q := p) rfl
    have h1 : (esc [] ++ 34 :: rest).length = rest.length + 1 := rfl
    rw [h1] at hs
    refine ⟨0, 0, (fun q hq => absurd hq (Nat.not_lt_zero _)), ?_, ?_, Nat.le_refl _⟩
    · rw [Nat.add_zero, e]; decide
    · exact .done (by lia) e
  | succ n ih =>
    intro p l hl h hp
    have hs := size_drop h hp
    rcases next_sign esc2 l with hno | ⟨a, c, b, rfl, ha, hc⟩
    · rw [esc_plain hno] at h hs ⊢
      have e := at_get h (q := p + l.length) rfl
      rw [List.length_append, List.length_cons] at hs
      refine ⟨l.length, 0, (fun q hq => quoc_of (all_head h (P := fun c => esc2 c = false) hno q hq)), ?_, .done (by lia) e, Nat.zero_le _⟩
      rw [e]; decide
    · have hlen : (a ++ c :: b).length = a.length + 1 + b.length := by simp; lia
      rw [esc_mark ha hc] at h hs ⊢
      have hlen2 : (a ++ 92 :: c :: esc b).length = a.length + 2 + (esc b).length := by simp; lia
      rw [List.length_append, hlen2, List.length_cons] at hs
      have h2 : T.toList.drop (p + a.length + 2) = esc b ++ 34 :: rest := by
        have := drop_more (a := a ++ [92, c]) (b := esc b ++ 34 :: rest) (by rw [h]; simp)
        rw [List.length_append] at this
        exact this
      obtain ⟨j, k, q1, q2, q3, q4⟩ := ih (p + a.length + 2) b (by lia) h2 (by lia)
      have e92 : T.getD (p + a.length) 0 = 92 := at_get (a := a) (c := 92) (b := c :: esc b ++ 34 :: rest) (by rw [h]; simp) rfl
      have ec : T.getD (p + a.length + 1) 0 = c := at_get (a := a ++ [92]) (c := c) (b := esc b ++ 34 :: rest) (by rw [h]; simp) (by simp; lia)
      have hc10 : c ≠ 10 := fun q => by subst q; exact absurd hc (by decide)
      refine ⟨a.length, k + 1, ?_, by rw [e92]; decide, ?_, by lia⟩
      · intro q hq
        exact quoc_of (all_head (b := 92 :: c :: esc b ++ 34 :: rest) (by rw [h]; simp) (P := fun c => esc2 c = false) ha q hq)
      · rw [hlen2, show p + (a.length + 2 + (esc b).length) = p + a.length + 2 + (esc b).length by lia]
        have hlt := q3.lt
        exact .more j e92 (by rw [ec]; exact hc10) q1 q2 hlt q3
/-- a quoted value is found -/
theorem finds_quoted (v rest : List Nat) (T : Array Nat) (hT : T.toList = 61 :: 34 :: (esc v ++ 34 :: rest)) (hz : T.size ≤ 100000) (hv : v.length ≤ 10000) : Finds CQ T (2 + (esc v).length + 1) 2 (2 + (esc v).length) := by
  have h2 : T.toList.drop 2 = esc v ++ 34 :: rest := by rw [hT]; rfl
  have hs : T.size = 2 + (esc v).length + 1 + rest.length := by
    have : T.toList.length = T.size := Array.length_toList
    rw [← this, hT]; simp; lia
  obtain ⟨j, k, q1, q2, q3, q4⟩ := escs_of T hz rest v.length 2 v (Nat.le_refl _) h2 (by lia)
  have e0 : T.getD 0 0 = 61 := at_get (p := 0) (a := []) (c := 61) (b := 34 :: (esc v ++ 34 :: rest)) (by rw [List.drop_zero, hT]; rfl) rfl
  have e1 : T.getD 1 0 = 34 := at_get (p := 0) (a := [61]) (c := 34) (b := esc v ++ 34 :: rest) (by rw [List.drop_zero, hT]; rfl) rfl
  exact ⟨by lia, by lia, by lia, 12 * k + 40, Nat.le_trans (by lia : _ ≤ 200000) (by decide), quo_won j _ k hz e0 e1 q1 q2 q3 (by lia)⟩

end
section
/-- the head of a text is no sign of a kind -/
noncomputable def HeadNo (p : Nat → Bool) : List Nat → Prop
  | [] => True
  | c :: _ => p c = false
theorem head_end {p : Nat → Bool} {T : Array Nat} {q : Nat} {l : List Nat} (h : T.toList.drop q = l) (hq : q ≤ T.size) (hl : HeadNo p l) : q = T.size ∨ p (T.getD q 0) = false := by
  cases l with
  | nil =>
    have hs := size_drop h hq
    rw [List.length_nil, Nat.add_zero] at hs
    exact .inl hs.symm
  | cons c b =>
    refine .inr ?_
    have e := at_get (a := []) (c := c) (b := b) h (q := q) rfl
    rw [e]; exact hl
theorem size_list {T : Array Nat} {l : List Nat} (h : T.toList = l) : T.size = l.length := by rw [← h]; exact Array.length_toList.symm
/-- a word's name is found -/
theorem finds_token (s n rest : List Nat) (T : Array Nat) (hT : T.toList = s ++ (n ++ rest)) (hz : T.size ≤ 100000) (hs : ∀ c ∈ s, sp c = true) (hn : n ≠ []) (ht : ∀ c ∈ n, tokc c = true) (hr : HeadNo tokc rest) : Finds CT T (s.length + n.length) s.length (s.length + n.length) := by
  have hl := size_list hT
  have hlen : (s ++ (n ++ rest)).length = s.length + n.length + rest.length := by simp; lia
  rw [hlen] at hl
  have h0 : T.toList.drop 0 = s ++ (n ++ rest) := hT
  have h1 : T.toList.drop s.length = n ++ rest := by have := drop_more h0; rwa [Nat.zero_add] at this
  have h2 : T.toList.drop (s.length + n.length) = rest := drop_more h1
  have hpos : 0 < n.length := by cases n with
    | nil => exact absurd rfl hn
    | cons a b => simp
  refine ⟨by lia, Nat.le_refl _, by lia, 20, by decide, tok_won s.length n.length hz ?_ hpos (all_head h1 ht) (by lia) (head_end h2 (by lia) hr)⟩
  intro q hq
  have := all_head h0 hs q hq
  rwa [Nat.zero_add] at this
/-- no name at the head -/
theorem misses_token (c : Nat) (rest : List Nat) (T : Array Nat) (hT : T.toList = c :: rest) (hz : T.size ≤ 100000) (h1 : sp c = false) (h2 : tokc c = false) : Misses CT T := by
  have e := at_get (T := T) (p := 0) (a := []) (c := c) (b := rest) (by rw [List.drop_zero]; exact hT) (q := 0) rfl
  exact ⟨2 * T.size + 10, Nat.le_trans (by lia : _ ≤ 200010) (by decide), tok_lost hz (by rw [e]; exact h1) (by rw [e]; exact h2)⟩
/-- what is no sign of equality behind blanks -/
noncomputable def NoEq : List Nat → Prop
  | [] => True
  | c :: r => sp c = false ∧ c ≠ 61 ∨ sp c = true ∧ HeadNo (fun c => sp c || c == 61) r ∧ True
theorem noEq_place {T : Array Nat} {l : List Nat} (hT : T.toList = l) (h : NoEq l) : ∃ j, j ≤ T.size ∧ (∀ q, q < j → sp (T.getD q 0) = true) ∧ (j = T.size ∨ (sp (T.getD j 0) = false ∧ T.getD j 0 ≠ 61)) := by
  have hl := size_list hT
  cases l with
  | nil => exact ⟨0, Nat.zero_le _, (fun q hq => absurd hq (Nat.not_lt_zero _)), .inl (by rw [hl]; rfl)⟩
  | cons c r =>
    have e0 := at_get (T := T) (p := 0) (a := []) (c := c) (b := r) (by rw [List.drop_zero]; exact hT) (q := 0) rfl
    rcases h with ⟨h1, h2⟩ | ⟨h1, h2, _⟩
    · exact ⟨0, Nat.zero_le _, (fun q hq => absurd hq (Nat.not_lt_zero _)), .inr ⟨by rw [e0]; exact h1, by rw [e0]; exact h2⟩⟩
    · refine ⟨1, by rw [hl]; simp, fun q hq => ?_, ?_⟩
      · have : q = 0 := by lia
        rw [this, e0]; exact h1
      · have h3 : T.toList.drop 1 = r := by rw [hT]; rfl
        rcases head_end h3 (by rw [hl]; simp) h2 with q | q
        · exact .inl q
        · refine .inr ?_
          rw [Bool.or_eq_false_iff] at q
          exact ⟨q.1, fun z => by rw [z] at q; exact absurd q.2 (by decide)⟩
theorem misses_quoted {T : Array Nat} {l : List Nat} (hT : T.toList = l) (hz : T.size ≤ 100000) (h : NoEq l) : Misses CQ T := by
  obtain ⟨j, h1, h2, h3⟩ := noEq_place hT h
  exact ⟨6 * T.size + 20, Nat.le_trans (by lia : _ ≤ 600020) (by decide), quo_lost j hz h1 h2 h3⟩
theorem misses_value {T : Array Nat} {l : List Nat} (hT : T.toList = l) (hz : T.size ≤ 100000) (h : NoEq l) : Misses CV T := by
  obtain ⟨j, h1, h2, h3⟩ := noEq_place hT h
  exact ⟨6 * T.size + 20, Nat.le_trans (by lia : _ ≤ 600020) (by decide), val_lost j hz h1 h2 h3⟩
/-- a bare value is no quoted one, and it is found -/
theorem misses_bare (c : Nat) (rest : List Nat) (T : Array Nat) (hT : T.toList = 61 :: c :: rest) (hz : T.size ≤ 100000) (h1 : sp c = false) (h2 : c ≠ 34) : Misses CQ T := by
  have e0 := at_get (T := T) (p := 0) (a := []) (c := 61) (b := c :: rest) (by rw [List.drop_zero]; exact hT) (q := 0) rfl
  have e1 := at_get (T := T) (p := 0) (a := [61]) (c := c) (b := rest) (by rw [List.drop_zero]; exact hT) (q := 1) rfl
  exact ⟨6 * T.size + 20, Nat.le_trans (by lia : _ ≤ 600020) (by decide), quo_lost2 hz e0 (by rw [e1]; exact h1) (by rw [e1]; exact h2)⟩
theorem finds_bare (v rest : List Nat) (T : Array Nat) (hT : T.toList = 61 :: (v ++ rest)) (hz : T.size ≤ 100000) (hv : v ≠ []) (ht : ∀ c ∈ v, valc c = true) (hr : HeadNo valc rest) : Finds CV T (1 + v.length) 1 (1 + v.length) := by
  have hl := size_list hT
  have hlen : (61 :: (v ++ rest)).length = 1 + v.length + rest.length := by simp; lia
  rw [hlen] at hl
  have h1 : T.toList.drop 1 = v ++ rest := by rw [hT]; rfl
  have h2 : T.toList.drop (1 + v.length) = rest := drop_more h1
  have e0 := at_get (T := T) (p := 0) (a := []) (c := 61) (b := v ++ rest) (by rw [List.drop_zero]; exact hT) (q := 0) rfl
  have hsp : sp (T.getD 1 0) = false := by
    cases v with
    | nil => exact absurd rfl hv
    | cons a b =>
      have e1 := at_get (T := T) (p := 1) (a := []) (c := a) (b := b ++ rest) h1 (q := 1) rfl
      rw [e1]
      have := ht a (.head _)
      unfold valc at this
      rw [Bool.not_eq_true', Bool.or_eq_false_iff, Bool.or_eq_false_iff] at this
      exact this.1.1
  exact ⟨by lia, Nat.le_refl _, by lia, 20, by decide, val_won v.length hz e0 hsp (all_head h1 ht) (by lia) (head_end h2 (by lia) hr)⟩

end
section
/-- a text of codes -/
noncomputable abbrev S (l : List Nat) : Str := ⟨l.toArray⟩
theorem S_size (l : List Nat) : (S l).cps.size = l.length := List.size_toArray
theorem str_of_list {x : Str} {l : List Nat} (h : x.cps.toList = l) : x = S l := Str.ext' (by show x.cps = l.toArray; rw [← h])
theorem join_is {out : List Str} {l : List Nat} (h : out.flatMap (fun x => x.cps.toList) = l) : PySem.Txt.join ⟨#[]⟩ out = S l := str_of_list (by rw [join_cps]; exact h)
theorem ext_S {l a b c : List Nat} (h : l = a ++ (b ++ c)) : (⟨(S l).cps.extract a.length (a.length + b.length)⟩ : Str) = S b := by
  have h1 : (S l).cps.toList.drop a.length = b ++ c := by show l.drop a.length = _; rw [h]; exact List.drop_left
  rw [extract_part h1 rfl]
theorem rest_S {l a b : List Nat} (h : l = a ++ b) : (⟨(S l).cps.extract a.length (S l).cps.size⟩ : Str) = S b := by
  have h1 : (S l).cps.toList.drop a.length = b ++ [] := by show l.drop a.length = _; rw [h, List.drop_left, List.append_nil]
  rw [extract_part h1 (by rw [S_size, h, List.length_append])]
/-- a word without a value -/
theorem word_alone (s n rest : List Nat) (hz : (s ++ (n ++ rest)).length ≤ 100000) (hs : ∀ c ∈ s, sp c = true) (hn : n ≠ []) (ht : ∀ c ∈ n, tokc c = true) (hr : HeadNo tokc rest) (hq : NoEq rest) : Word (S (s ++ (n ++ rest))) (S n) none (S rest) := by
  have hz1 : (S (s ++ (n ++ rest))).cps.size ≤ 100000 := by rw [S_size]; exact hz
  have hz2 : (S rest).cps.size ≤ 100000 := by rw [S_size]; simp at hz; lia
  refine .alone (finds_token s n rest _ rfl hz1 hs hn ht hr) (ext_S rfl) ?_ hz2 (misses_quoted rfl hz2 hq) (misses_value rfl hz2 hq)
  have := rest_S (l := s ++ (n ++ rest)) (a := s ++ n) (b := rest) (by simp)
  rw [List.length_append] at this
  exact this
/-- a word with a quoted value -/
theorem word_quoted (s n v rest : List Nat) (hz : (s ++ (n ++ (61 :: 34 :: (esc v ++ 34 :: rest)))).length ≤ 100000) (hs : ∀ c ∈ s, sp c = true) (hn : n ≠ []) (ht : ∀ c ∈ n, tokc c = true) (hv : v.length ≤ 10000) : Word (S (s ++ (n ++ (61 :: 34 :: (esc v ++ 34 :: rest))))) (S n) (some (S v)) (S rest) := by
  have hz1 : (S (s ++ (n ++ (61 :: 34 :: (esc v ++ 34 :: rest))))).cps.size ≤ 100000 := by rw [S_size]; exact hz
  have hz2 : (S (61 :: 34 :: (esc v ++ 34 :: rest))).cps.size ≤ 100000 := by rw [S_size]; simp at hz ⊢; lia
  have hz3 : (S (esc v)).cps.size ≤ 100000 := by rw [S_size]; simp at hz; lia
  obtain ⟨out, r1, r2, r3, r4⟩ := read_run (S (esc v)).cps hz3 v.length 0 v (Nat.le_refl _) rfl (Nat.zero_le _)
  have hj := join_is r2
  rw [← hj]
  refine .quo (finds_token s n _ _ rfl hz1 hs hn ht (by show tokc 61 = false; decide)) (ext_S rfl) ?_ hz2 (finds_quoted v rest _ rfl hz2 hv) ?_ ?_ hz3 r1 (by lia) (by lia)
  · have := rest_S (l := s ++ (n ++ (61 :: 34 :: (esc v ++ 34 :: rest)))) (a := s ++ n) (b := 61 :: 34 :: (esc v ++ 34 :: rest)) (by simp)
    rw [List.length_append] at this
    exact this
  · exact ext_S (l := 61 :: 34 :: (esc v ++ 34 :: rest)) (a := [61, 34]) (b := esc v) (c := 34 :: rest) rfl
  · have := rest_S (l := 61 :: 34 :: (esc v ++ 34 :: rest)) (a := [61, 34] ++ esc v ++ [34]) (b := rest) (by simp)
    rw [List.length_append, List.length_append] at this
    exact this

end
section
theorem takeWhile_no {p : Nat → Bool} : ∀ {l : List Nat}, HeadNo p l → l.takeWhile p = []
  | [], _ => rfl
  | c :: r, h => by
    have h' : p c = false := h
    rw [List.takeWhile_cons, h']; rfl
theorem rstrip_S {v : List Nat} (h : ∀ c ∈ v, sp c = false) : PySem.Txt.rstrip (S v) = S v := by
  unfold PySem.Txt.rstrip
  rw [PyProof.Rows.stripBy_eq]
  have h2 : (v.reverse).takeWhile Unicode.isSpace = [] := takeWhile_no (by
    cases q : v.reverse with
    | nil => trivial
    | cons c r =>
      show Unicode.isSpace c = false
      exact h c (List.mem_reverse.mp (q ▸ .head _)))
  simp only [stripHi, stripLo, if_true, Bool.false_eq_true, if_false, List.drop_zero]
  rw [h2]
  show (⟨(S v).cps.extract 0 ((S v).length - 0)⟩ : Str) = S v
  have : (S v).cps.toList.drop 0 = v ++ [] := by show v.drop 0 = _; simp
  rw [extract_part this (by show (S v).cps.size - 0 = _; rw [S_size]; simp)]
/-- blanks at the head, one or none -/
theorem lstrip_S {v : List Nat} (h : HeadNo sp v) : PySem.Txt.lstrip (S v) = S v := by
  unfold PySem.Txt.lstrip
  rw [PyProof.Rows.stripBy_eq]
  simp only [stripHi, stripLo, if_true, Bool.false_eq_true, if_false]
  rw [takeWhile_no (p := Unicode.isSpace) h]
  show (⟨(S v).cps.extract 0 (S v).length⟩ : Str) = S v
  have : (S v).cps.toList.drop 0 = v ++ [] := by show v.drop 0 = _; simp
  rw [extract_part this (by show (S v).cps.size = _; rw [S_size]; simp)]
theorem starts_comma (v : List Nat) : PySem.Txt.startswith (S (44 :: v)) (Str.ofString ",") = true := by
  unfold PySem.Txt.startswith PySem.Builtin.Str.subAt
  have : (S (44 :: v)).cps.toList.drop 0 = [44] ++ v := rfl
  rw [extract_part (p := 0) (q := 0 + (Str.ofString ",").length) this rfl]
  rw [Bool.and_eq_true]
  refine ⟨decide_eq_true ?_, ?_⟩
  · show 0 + 1 ≤ (S (44 :: v)).cps.size
    rw [S_size]; simp
  · decide
theorem starts_no {c : Nat} {v : List Nat} (h : c ≠ 44) : PySem.Txt.startswith (S (c :: v)) (Str.ofString ",") = false := by
  unfold PySem.Txt.startswith PySem.Builtin.Str.subAt
  have : (S (c :: v)).cps.toList.drop 0 = [c] ++ v := rfl
  rw [extract_part (p := 0) (q := 0 + (Str.ofString ",").length) this rfl]
  rw [Bool.and_eq_false_iff]
  refine .inr ?_
  have e : (Str.ofString ",").cps = #[44] := by decide
  rw [e]
  apply Bool.eq_false_iff.mpr
  intro q
  have q2 := eq_of_beq q
  have q3 : [c] = [44] := congrArg Array.toList q2
  injection q3 with q3
  exact h q3
theorem slice_one (c : Nat) (v : List Nat) : PySem.Txt.slice (S (c :: v)) (some 1) none = S v := by
  have h1 : (1 : Nat) ≤ (S (c :: v)).cps.size := by rw [S_size]; simp
  have := slice_from (x := S (c :: v)) (i := 1) h1
  rw [show ((1 : Nat) : Int) = 1 from rfl] at this
  rw [this]
  exact rest_S (l := c :: v) (a := [c]) (b := v) rfl
theorem valc_sp {c : Nat} (h : valc c = true) : sp c = false := by
  unfold valc at h
  rw [Bool.not_eq_true', Bool.or_eq_false_iff, Bool.or_eq_false_iff] at h
  exact h.1.1
/-- a word with a bare value -/
theorem word_bare (s n : List Nat) (c : Nat) (v rest : List Nat) (hz : (s ++ (n ++ (61 :: (c :: v ++ rest)))).length ≤ 100000) (hs : ∀ x ∈ s, sp x = true) (hn : n ≠ []) (ht : ∀ x ∈ n, tokc x = true) (hc : c ≠ 34) (hv : ∀ x ∈ c :: v, valc x = true) (hr : HeadNo valc rest) :
    Word (S (s ++ (n ++ (61 :: (c :: v ++ rest))))) (S n) (some (S (c :: v))) (S rest) := by
  have hz1 : (S (s ++ (n ++ (61 :: (c :: v ++ rest))))).cps.size ≤ 100000 := by rw [S_size]; exact hz
  have hz2 : (S (61 :: (c :: v ++ rest))).cps.size ≤ 100000 := by rw [S_size]; simp at hz ⊢; lia
  have hz3 : (S (c :: v)).cps.size ≤ 100000 := by rw [S_size]; simp at hz ⊢; lia
  refine .bare (finds_token s n _ _ rfl hz1 hs hn ht (by show tokc 61 = false; decide)) (ext_S rfl) ?_ hz2 (misses_bare c (v ++ rest) _ rfl hz2 (valc_sp (hv c (.head _))) hc) (finds_bare (c :: v) rest _ rfl hz2 (by simp) hv hr) ?_ ?_ hz3 (rstrip_S fun x hx => valc_sp (hv x hx))
  · have := rest_S (l := s ++ (n ++ (61 :: (c :: v ++ rest)))) (a := s ++ n) (b := 61 :: (c :: v ++ rest)) (by simp)
    rw [List.length_append] at this
    exact this
  · exact ext_S (l := 61 :: (c :: v ++ rest)) (a := [61]) (b := c :: v) (c := rest) rfl
  · have := rest_S (l := 61 :: (c :: v ++ rest)) (a := [61] ++ (c :: v)) (b := rest) (by simp)
    rw [List.length_append] at this
    exact this
/-- the steps of a run, on lists of codes -/
theorem run_word {x r : List Nat} {n : Str} {val : Option Str} {ws : List Wd} {gs fin : List (List Wd)} (hz : x.length ≤ 100000) (hW : Word (S x) n val (S r)) (hl : r.length < x.length) (h : Run (S r) (ws ++ [(n, val)]) gs fin) : Run (S x) ws gs fin :=
  .word (by rw [S_size]; lia) (by rw [S_size]; exact hz) hW (by rw [S_size, S_size]; exact hl) h
theorem run_comma {r : List Nat} {ws : List Wd} {gs fin : List (List Wd)} (hz : (44 :: r).length ≤ 100000) (h : Run (S r) [] (shut ws gs) fin) : Run (S (44 :: r)) ws gs fin :=
  .comma (by rw [S_size]; simp) (by rw [S_size]; exact hz) (misses_token 44 r _ rfl (by rw [S_size]; exact hz) (by decide) (by decide)) (lstrip_S (v := 44 :: r) (by show sp 44 = false; decide)) (starts_comma r) (by rw [S_size]; exact hz) (slice_one 44 r) (by rw [S_size, S_size]; simp) h
/-- "; " between two words of a list -/
theorem run_semi {r : List Nat} {ws : List Wd} {gs fin : List (List Wd)} (hz : (59 :: 32 :: r).length ≤ 100000) (hr : HeadNo junk r) (h : Run (S r) ws gs fin) : Run (S (59 :: 32 :: r)) ws gs fin := by
  have hz1 : (S (59 :: 32 :: r)).cps.size ≤ 100000 := by rw [S_size]; exact hz
  have h0 : (S (59 :: 32 :: r)).cps.toList.drop 0 = [59, 32] ++ r := rfl
  have h2 : (S (59 :: 32 :: r)).cps.toList.drop 2 = r := rfl
  refine .junk (n := 2) (by rw [S_size]; simp) hz1 (misses_token 59 (32 :: r) _ rfl hz1 (by decide) (by decide)) (lstrip_S (v := 59 :: 32 :: r) (by show sp 59 = false; decide)) (starts_no (by decide)) (by decide) (by rw [S_size]; simp) ?_ (head_end h2 (by rw [S_size]; simp) hr) (rest_S (l := 59 :: 32 :: r) (a := [59, 32]) (b := r) rfl) (by rw [S_size, S_size]; simp; lia) h
  intro q hq
  have := all_head (P := fun c => junk c = true) h0 (by intro x hx; rcases List.mem_cons.mp hx with rfl | hx; decide; rcases List.mem_cons.mp hx with rfl | hx; decide; cases hx) q hq
  rwa [Nat.zero_add] at this
theorem run_done {ws : List Wd} {gs : List (List Wd)} : Run (S []) ws gs (shut ws gs) := .done rfl

end
section
/-- what may follow a thing of an error's text -/
noncomputable def Brk : List Nat → Prop
  | [] => True
  | c :: r => c = 44 ∨ c = 32 ∧ HeadNo (fun x => sp x || x == 61) r
theorem Brk.tok {l : List Nat} (h : Brk l) : HeadNo tokc l := by
  cases l with
  | nil => trivial
  | cons c r => rcases h with rfl | ⟨rfl, _⟩ <;> (show tokc _ = false; decide)
theorem Brk.val {l : List Nat} (h : Brk l) : HeadNo valc l := by
  cases l with
  | nil => trivial
  | cons c r => rcases h with rfl | ⟨rfl, _⟩ <;> (show valc _ = false; decide)
theorem Brk.noEq {l : List Nat} (h : Brk l) : NoEq l := by
  cases l with
  | nil => trivial
  | cons c r =>
    rcases h with rfl | ⟨rfl, h⟩
    · exact .inl ⟨by decide, by decide⟩
    · exact .inr ⟨by decide, h, trivial⟩
/-- is a value written bare: a and - only, and not empty -/
noncomputable def bareOk (v : List Nat) : Bool := !v.isEmpty && v.all (fun c => c == 97 || c == 45)
/-- how a leaf is written -/
noncomputable def leafText (n : List Nat) : Option (List Nat) → List Nat
  | none => n
  | some v => if bareOk v then n ++ 61 :: v else n ++ 61 :: 34 :: (esc v ++ [34])
noncomputable abbrev Wl := List Nat × Option (List Nat)
noncomputable def closes (c : Nat) : List Nat := List.replicate c 41
/-- the words that a leaf is read as -/
noncomputable def leafWords (front : List Nat) (c : Nat) (n : List Nat) : Option (List Nat) → List Wl
  | none => [(front ++ n ++ closes c, none)]
  | some v => if bareOk v then [(front ++ n, some (v ++ closes c))] else if 0 < c then [(front ++ n, some v), (closes c, none)] else [(front ++ n, some v)]
noncomputable def toW (w : Wl) : Wd := (S w.1, w.2.map S)
theorem closes_tok (c : Nat) : ∀ x ∈ closes c, tokc x = true := fun x hx => by rw [List.eq_of_mem_replicate hx]; decide
theorem closes_val (c : Nat) : ∀ x ∈ closes c, valc x = true := fun x hx => by rw [List.eq_of_mem_replicate hx]; decide
theorem run_leaf (s front n : List Nat) (val : Option (List Nat)) (c : Nat) (rest : List Nat) (ws : List Wd) (gs fin : List (List Wd)) (hs : ∀ x ∈ s, sp x = true) (hf : ∀ x ∈ front, tokc x = true) (hn : n ≠ []) (ht : ∀ x ∈ n, tokc x = true) (hb : Brk rest) (hv : ∀ v, val = some v → v.length ≤ 10000)
    (hz : (s ++ (front ++ leafText n val ++ closes c ++ rest)).length ≤ 100000) (h : Run (S rest) (ws ++ (leafWords front c n val).map toW) gs fin) : Run (S (s ++ (front ++ leafText n val ++ closes c ++ rest))) ws gs fin := by
  cases val with
  | none =>
    have e : s ++ (front ++ leafText n none ++ closes c ++ rest) = s ++ ((front ++ n ++ closes c) ++ rest) := by simp [leafText]
    rw [e] at hz ⊢
    refine run_word hz (word_alone s (front ++ n ++ closes c) rest hz hs (by simp [hn]) ?_ hb.tok hb.noEq) ?_ h
    · intro x hx
      rcases List.mem_append.mp hx with hx | hx
      · exact (List.mem_append.mp hx).elim (hf x) (ht x)
      · exact closes_tok c x hx
    · have : 0 < n.length := by cases n with
        | nil => exact absurd rfl hn
        | cons a b => simp
      simp; lia
  | some v =>
    have hft : ∀ x ∈ front ++ n, tokc x = true := fun x hx => (List.mem_append.mp hx).elim (hf x) (ht x)
    have hfn : front ++ n ≠ [] := by simp [hn]
    have hpos : 0 < n.length := by cases n with
      | nil => exact absurd rfl hn
      | cons a b => simp
    by_cases hb1 : bareOk v = true
    · cases v with
      | nil => exact absurd hb1 (by decide)
      | cons a w =>
        have hab : ∀ x ∈ a :: w, x = 97 ∨ x = 45 := by
          intro x hx
          unfold bareOk at hb1
          rw [Bool.and_eq_true] at hb1
          have := List.all_eq_true.mp hb1.2 x hx
          simpa using this
        have e : s ++ (front ++ leafText n (some (a :: w)) ++ closes c ++ rest) = s ++ ((front ++ n) ++ (61 :: (a :: (w ++ closes c) ++ rest))) := by simp [leafText, hb1]
        have e2 : leafWords front c n (some (a :: w)) = [(front ++ n, some (a :: (w ++ closes c)))] := by simp [leafWords, hb1]
        rw [e] at hz ⊢
        rw [e2] at h
        refine run_word hz (word_bare s (front ++ n) a (w ++ closes c) rest hz hs hfn hft ?_ ?_ hb.val) ?_ h
        · rcases hab a (.head _) with q | q <;> (rw [q]; decide)
        · intro x hx
          rcases List.mem_cons.mp hx with rfl | hx
          · rcases hab x (.head _) with q | q <;> (rw [q]; decide)
          · rcases List.mem_append.mp hx with hx | hx
            · rcases hab x (.tail _ hx) with q | q <;> (rw [q]; decide)
            · exact closes_val c x hx
        · simp; lia
    · have hb0 : bareOk v = false := by simpa using hb1
      have e : s ++ (front ++ leafText n (some v) ++ closes c ++ rest) = s ++ ((front ++ n) ++ (61 :: 34 :: (esc v ++ 34 :: (closes c ++ rest)))) := by simp [leafText, hb0]
      rw [e] at hz ⊢
      refine run_word hz (word_quoted s (front ++ n) v (closes c ++ rest) hz hs hfn hft (hv v rfl)) (by simp; lia) ?_
      by_cases hc : 0 < c
      · have e2 : leafWords front c n (some v) = [(front ++ n, some v), (closes c, none)] := by simp [leafWords, hb0, hc]
        rw [e2] at h
        have hz2 : ([] ++ (closes c ++ rest)).length ≤ 100000 := by simp at hz ⊢; lia
        have hcl : (closes c).length = c := List.length_replicate
        have hcn : closes c ≠ [] := fun q => by rw [q] at hcl; simp at hcl; lia
        have := word_alone [] (closes c) rest hz2 (fun _ q => nomatch q) hcn (closes_tok c) hb.tok hb.noEq
        refine run_word (by simpa using hz2) this (by rw [List.length_append, hcl]; lia) ?_
        simpa [toW] using h
      · have hc0 : c = 0 := by lia
        subst hc0
        have e2 : leafWords front 0 n (some v) = [(front ++ n, some v)] := by simp [leafWords, hb0]
        rw [e2] at h
        exact h

end
section
/-- a tree, its leaves as codes -/
inductive LT
  | leaf (n : List Nat) (v : Option (List Nat))
  | node (a b d : LT)
noncomputable def LT.text : LT → List Nat
  | .leaf n v => leafText n v
  | .node a b d => a.text ++ (32 :: 40 :: (b.text ++ (44 :: 32 :: 108 :: 105 :: 110 :: 101 :: 32 :: (d.text ++ [41]))))
noncomputable def LT.good : LT → Prop
  | .leaf n v => n ≠ [] ∧ (∀ x ∈ n, tokc x = true) ∧ ∀ w, v = some w → w.length ≤ 10000
  | .node a b d => a.good ∧ b.good ∧ d.good
noncomputable def lineW : Wl := ([108, 105, 110, 101], none)
/-- the lists that are laid: those that are full, and the one under way -/
noncomputable def lay : LT → List Nat → Nat → List (List Wl) × List Wl → List (List Wl) × List Wl
  | .leaf n v, front, c, (gs, ws) => (gs, ws ++ leafWords front c n v)
  | .node a b d, front, c, st =>
    let st2 := lay b [40] 0 (lay a front 0 st)
    lay d [] (c + 1) (st2.1 ++ [st2.2], [lineW])
theorem leafText_head (n : List Nat) (v : Option (List Nat)) (hn : n ≠ []) (ht : ∀ x ∈ n, tokc x = true) (r : List Nat) : HeadNo (fun x => sp x || x == 61) (leafText n v ++ r) := by
  have key : ∀ a, tokc a = true → (sp a || a == 61) = false := by
    intro a ha
    rw [Bool.or_eq_false_iff]
    refine ⟨?_, ?_⟩
    · unfold tokc at ha
      rw [Bool.not_eq_true', Bool.or_eq_false_iff] at ha
      exact ha.2
    · apply Bool.eq_false_iff.mpr
      intro q
      have := eq_of_beq q
      subst this
      exact absurd ha (by decide)
  cases n with
  | nil => exact absurd rfl hn
  | cons a b =>
    have := key a (ht a (.head _))
    cases v with
    | none => exact this
    | some w =>
      unfold leafText
      by_cases q : bareOk w = true
      · simp only [q, if_true]; exact this
      · simp only [q, Bool.false_eq_true, if_false]; exact this
theorem text_head : ∀ (t : LT), t.good → ∀ r, HeadNo (fun x => sp x || x == 61) (t.text ++ r)
  | .leaf n v, h, r => leafText_head n v h.1 h.2.1 r
  | .node a b d, h, r => by
    show HeadNo _ ((a.text ++ _) ++ r)
    rw [List.append_assoc]
    exact text_head a h.1 _
theorem lay_ws : ∀ (t : LT) (front : List Nat) (c : Nat) (st : List (List Wl) × List Wl), t.good → (lay t front c st).2 ≠ []
  | .leaf n v, front, c, (gs, ws), _ => by
    show ws ++ leafWords front c n v ≠ []
    cases v with
    | none => simp [leafWords]
    | some w =>
      by_cases q : bareOk w = true
      · simp [leafWords, q]
      · by_cases q2 : 0 < c <;> simp [leafWords, q, q2]
  | .node a b d, front, c, st, h => lay_ws d [] (c + 1) _ h.2.2
theorem run_tree : ∀ (t : LT) (s front : List Nat) (c : Nat) (rest : List Nat) (st : List (List Wl) × List Wl) (fin : List (List Wd)), t.good → (∀ x ∈ s, sp x = true) → (∀ x ∈ front, tokc x = true) → Brk rest → (s ++ (front ++ t.text ++ closes c ++ rest)).length ≤ 100000 →
    Run (S rest) ((lay t front c st).2.map toW) ((lay t front c st).1.map (·.map toW)) fin → Run (S (s ++ (front ++ t.text ++ closes c ++ rest))) (st.2.map toW) (st.1.map (·.map toW)) fin := by
  intro t
  induction t with
  | leaf n v =>
    intro s front c rest st fin hg hs hf hb hz h
    refine run_leaf s front n v c rest _ _ fin hs hf hg.1 hg.2.1 hb hg.2.2 hz ?_
    rw [← List.map_append]
    exact h
  | node a b d iha ihb ihd =>
    intro s front c rest st fin hg hs hf hb hz h
    have hsp : ∀ x ∈ [32], sp x = true := fun x hx => by rw [List.mem_singleton.mp hx]; decide
    have e : s ++ (front ++ (LT.node a b d).text ++ closes c ++ rest) = s ++ (front ++ a.text ++ closes 0 ++ ([32] ++ ([40] ++ b.text ++ closes 0 ++ (44 :: ([32] ++ ([108, 105, 110, 101] ++ ([32] ++ ([] ++ d.text ++ closes (c + 1) ++ rest)))))))) := by
      simp [LT.text, closes, List.replicate_succ]
    rw [e] at hz ⊢
    have hd3 : ([32] ++ ([] ++ d.text ++ closes (c + 1) ++ rest)).length ≤ 100000 := by simp at hz ⊢; lia
    have hd2 : ([32] ++ ([108, 105, 110, 101] ++ ([32] ++ ([] ++ d.text ++ closes (c + 1) ++ rest)))).length ≤ 100000 := by simp at hz ⊢; lia
    have hd1 : (44 :: ([32] ++ ([108, 105, 110, 101] ++ ([32] ++ ([] ++ d.text ++ closes (c + 1) ++ rest))))).length ≤ 100000 := by simp at hz ⊢; lia
    have hd0 : ([32] ++ ([40] ++ b.text ++ closes 0 ++ (44 :: ([32] ++ ([108, 105, 110, 101] ++ ([32] ++ ([] ++ d.text ++ closes (c + 1) ++ rest))))))).length ≤ 100000 := by simp at hz ⊢; lia
    refine iha s front 0 _ st fin hg.1 hs hf (.inr ⟨rfl, by show (sp 40 || 40 == 61) = false; decide⟩) hz ?_
    refine ihb [32] [40] 0 _ (lay a front 0 st) fin hg.2.1 hsp (fun x hx => by rw [List.mem_singleton.mp hx]; decide) (.inl rfl) hd0 ?_
    refine run_comma hd1 ?_
    have hne := lay_ws b [40] 0 (lay a front 0 st) hg.2.1
    have hsh : shut ((lay b [40] 0 (lay a front 0 st)).2.map toW) ((lay b [40] 0 (lay a front 0 st)).1.map (·.map toW)) = ((lay b [40] 0 (lay a front 0 st)).1 ++ [(lay b [40] 0 (lay a front 0 st)).2]).map (·.map toW) := by
      unfold shut
      rw [if_neg (by simp [hne]), List.map_append]
      rfl
    rw [hsh]
    have hbd : Brk ([32] ++ ([] ++ d.text ++ closes (c + 1) ++ rest)) := .inr ⟨rfl, by
      show HeadNo _ ([] ++ d.text ++ closes (c + 1) ++ rest)
      rw [List.nil_append, List.append_assoc]
      exact text_head d hg.2.2 _⟩
    refine run_word hd2 (word_alone [32] [108, 105, 110, 101] _ hd2 hsp (by simp) (fun x hx => by simp only [List.mem_cons, List.not_mem_nil, or_false] at hx; rcases hx with rfl | rfl | rfl | rfl <;> decide) hbd.tok hbd.noEq) (by simp) ?_
    exact ihd [32] [] (c + 1) rest ((lay b [40] 0 (lay a front 0 st)).1 ++ [(lay b [40] 0 (lay a front 0 st)).2], [lineW]) fin hg.2.2 hsp (fun _ q => nomatch q) hb hd3 h

end
section
noncomputable def jOk (v : List Nat) : Bool := !v.isEmpty && v.all jtok
/-- how join writes a word -/
noncomputable def attrText : Wl → List Nat
  | (n, none) => n
  | (n, some v) => if jOk v then n ++ 61 :: v else n ++ 61 :: 34 :: (esc v ++ [34])
theorem full_ok {v : List Nat} (hz : v.length ≤ 100000) (h : jOk v = true) : FullOk (S v).cps := by
  unfold jOk at h
  rw [Bool.and_eq_true] at h
  have hne : 1 ≤ v.length := by cases v with
    | nil => exact absurd h.1 (by decide)
    | cons a b => simp
  refine ⟨10, by decide, jt_won (by rw [S_size]; exact hz) (by rw [S_size]; exact hne) fun q hq => ?_⟩
  have h0 : (S v).cps.toList.drop 0 = v ++ [] := by show v.drop 0 = _; simp
  have := all_head (P := fun c => jtok c = true) h0 (fun x hx => List.all_eq_true.mp h.2 x hx) q (by rw [S_size] at hq; exact hq)
  rwa [Nat.zero_add] at this
theorem full_no {v : List Nat} (hz : v.length ≤ 100000) (h : jOk v = false) : FullNo (S v).cps := by
  have hz1 : (S v).cps.size ≤ 100000 := by rw [S_size]; exact hz
  refine ⟨4 * (S v).cps.size + 20, Nat.le_trans (by lia : _ ≤ 400020) (by decide), ?_⟩
  cases v with
  | nil => exact jt_lost 0 hz1 (fun q hq => absurd hq (Nat.not_lt_zero _)) (.inl ⟨rfl, rfl⟩)
  | cons x r =>
    have h2 : ¬ ∀ c ∈ x :: r, (!jtok c) = false := by
      intro q
      have : jOk (x :: r) = true := by
        unfold jOk
        rw [Bool.and_eq_true]
        exact ⟨rfl, List.all_eq_true.mpr fun c hc => by simpa using q c hc⟩
      rw [h] at this; cases this
    rcases next_sign (fun c => !jtok c) (x :: r) with q | ⟨a, c, b, e, h3, h4⟩
    · exact absurd q h2
    · have h0 : (S (x :: r)).cps.toList.drop 0 = a ++ c :: b := by show (x :: r).drop 0 = _; rw [List.drop_zero]; exact e
      have hl : (S (x :: r)).cps.size = a.length + 1 + b.length := by rw [S_size, e]; simp; lia
      refine jt_lost a.length hz1 (fun q hq => ?_) (.inr ⟨by lia, ?_⟩)
      · have := all_head (P := fun c => jtok c = true) h0 (fun y hy => by simpa using h3 y hy) q hq
        rwa [Nat.zero_add] at this
      · rw [at_get h0 (q := a.length) (by lia)]
        simpa using h4
theorem S_app (a b : List Nat) : S a ++ S b = S (a ++ b) := str_of_list (by rw [PySem.Str.cps_append, Array.toList_append])
theorem esc_len (v : List Nat) : (esc v).length ≤ 2 * v.length := by
  induction v with
  | nil => exact Nat.le_refl _
  | cons c r ih =>
    have e : esc (c :: r) = (if esc2 c then [92, c] else [c]) ++ esc r := by unfold esc; rw [List.flatMap_cons]
    rw [e, List.length_append, List.length_cons]
    split <;> simp <;> lia
theorem attr_is (w : Wl) (h1 : w.1.length ≤ 100000) (h2 : ∀ v, w.2 = some v → v.length ≤ 10000) : Attr (toW w) (S (attrText w)) := by
  obtain ⟨n, val⟩ := w
  have he : (Str.empty ++ S n : Str) = S n := str_of_list (by rw [PySem.Str.cps_append, Array.toList_append]; rfl)
  have h61 : Str.ofString "=" = S [61] := str_of_list (by decide)
  have h34 : Str.ofString "\"" = S [34] := str_of_list (by decide)
  cases val with
  | none => exact .alone
  | some v =>
    have hv := h2 v rfl
    have hn : (S n).cps.size ≤ 100000 := by rw [S_size]; exact h1
    have hvz : (S v).cps.size ≤ 100000 := by rw [S_size]; lia
    by_cases q : jOk v = true
    · have e : S (attrText (n, some v)) = Str.empty ++ S n ++ Str.ofString "=" ++ S v := by
        rw [he, h61, S_app, S_app]
        simp [attrText, q]
      rw [e]
      exact .bare (full_ok (by lia) q) hvz hn
    · have q0 : jOk v = false := by simpa using q
      obtain ⟨out, r1, r2, r3, r4⟩ := write_run (S v).cps hvz v.length 0 v (Nat.le_refl _) rfl (Nat.zero_le _)
      have hj : PySem.Txt.join ⟨#[]⟩ out = S (esc v) := join_is r2
      have hel := esc_len v
      have e : S (attrText (n, some v)) = Str.empty ++ S n ++ Str.ofString "=" ++ (Str.ofString "\"" ++ PySem.Txt.join ⟨#[]⟩ out ++ Str.ofString "\"") := by
        rw [hj, he, h61, h34, S_app, S_app, S_app, S_app]
        simp [attrText, q0]
      rw [e]
      exact .quo (full_no (by lia) q0) hvz hn r1 (by lia) (by lia) (by rw [hj, S_size]; lia)

end
section
theorem jtok_small : ∀ c, c < 256 → jtok c = true → valc c = true ∧ c ≠ 34 := by decide +kernel
theorem jtok_val {c : Nat} (h : jtok c = true) : valc c = true ∧ c ≠ 34 := by
  have : c < 256 := by
    unfold jtok at h
    rw [Bool.and_eq_true] at h
    exact of_decide_eq_true h.1
  exact jtok_small c this h
/-- one word that join has written is read -/
theorem run_attr (s : List Nat) (w : Wl) (rest : List Nat) (ws : List Wd) (gs fin : List (List Wd)) (hs : ∀ x ∈ s, sp x = true) (hn : w.1 ≠ []) (ht : ∀ x ∈ w.1, tokc x = true) (hv : ∀ v, w.2 = some v → v.length ≤ 10000) (h1 : HeadNo tokc rest) (h2 : HeadNo valc rest) (h3 : NoEq rest)
    (hz : (s ++ (attrText w ++ rest)).length ≤ 100000) (h : Run (S rest) (ws ++ [toW w]) gs fin) : Run (S (s ++ (attrText w ++ rest))) ws gs fin := by
  obtain ⟨n, val⟩ := w
  have hpos : 0 < n.length := by cases n with
    | nil => exact absurd rfl hn
    | cons a b => simp
  cases val with
  | none => exact run_word hz (word_alone s n rest hz hs hn ht h1 h3) (by simp [attrText]; lia) h
  | some v =>
    by_cases q : jOk v = true
    · cases v with
      | nil => exact absurd q (by decide)
      | cons a r =>
        have hall : ∀ x ∈ a :: r, jtok x = true := by
          unfold jOk at q
          rw [Bool.and_eq_true] at q
          exact fun x hx => List.all_eq_true.mp q.2 x hx
        have e : s ++ (attrText (n, some (a :: r)) ++ rest) = s ++ (n ++ (61 :: (a :: r ++ rest))) := by simp [attrText, q]
        rw [e] at hz ⊢
        exact run_word hz (word_bare s n a r rest hz hs hn ht (jtok_val (hall a (.head _))).2 (fun x hx => (jtok_val (hall x hx)).1) h2) (by simp; lia) h
    · have q0 : jOk v = false := by simpa using q
      have e : s ++ (attrText (n, some v) ++ rest) = s ++ (n ++ (61 :: 34 :: (esc v ++ 34 :: rest))) := by simp [attrText, q0]
      rw [e] at hz ⊢
      exact run_word hz (word_quoted s n v rest hz hs hn ht (hv v rfl)) (by simp; lia) h
noncomputable def rowText : List Wl → List Nat
  | [] => []
  | [w] => attrText w
  | w :: r => attrText w ++ 59 :: 32 :: rowText r
noncomputable def GoodW (w : Wl) : Prop := w.1 ≠ [] ∧ (∀ x ∈ w.1, tokc x = true) ∧ ∀ v, w.2 = some v → v.length ≤ 10000
theorem tokc_junk {c : Nat} (h : tokc c = true) : junk c = false := by
  have h1 : sp c = false := by
    unfold tokc at h
    rw [Bool.not_eq_true', Bool.or_eq_false_iff] at h
    exact h.2
  unfold junk
  rw [h1]
  have h2 : c ≠ 61 := fun q => by subst q; exact absurd h (by decide)
  have h3 : c ≠ 59 := fun q => by subst q; exact absurd h (by decide)
  simp [h2, h3]
theorem attr_head {w : Wl} (hw : GoodW w) (r : List Nat) : ∃ c t, attrText w ++ r = c :: t ∧ tokc c = true := by
  obtain ⟨n, val⟩ := w
  obtain ⟨h1, h2, _⟩ := hw
  cases n with
  | nil => exact absurd rfl h1
  | cons a b =>
    cases val with
    | none => exact ⟨a, b ++ r, rfl, h2 a (.head _)⟩
    | some v =>
      by_cases q : jOk v = true
      · exact ⟨a, _, by simp [attrText, q]; rfl, h2 a (.head _)⟩
      · exact ⟨a, _, by simp [attrText, q]; rfl, h2 a (.head _)⟩
theorem row_head : ∀ {ws : List Wl}, ws ≠ [] → (∀ w ∈ ws, GoodW w) → ∀ r, ∃ c t, rowText ws ++ r = c :: t ∧ tokc c = true
  | [w], _, h, r => attr_head (h w (.head _)) r
  | w :: w2 :: l, _, h, r => by
    show ∃ c t, (attrText w ++ 59 :: 32 :: rowText (w2 :: l)) ++ r = c :: t ∧ _
    rw [List.append_assoc]
    exact attr_head (h w (.head _)) _
/-- a list that join has written is read -/
theorem run_row : ∀ (ws : List Wl) (s rest : List Nat) (pre : List Wd) (gs fin : List (List Wd)), ws ≠ [] → (∀ w ∈ ws, GoodW w) → (∀ x ∈ s, sp x = true) → Brk rest → (s ++ (rowText ws ++ rest)).length ≤ 100000 → Run (S rest) (pre ++ ws.map toW) gs fin → Run (S (s ++ (rowText ws ++ rest))) pre gs fin
  | [w], s, rest, pre, gs, fin, _, hg, hs, hb, hz, h => run_attr s w rest pre gs fin hs (hg w (.head _)).1 (hg w (.head _)).2.1 (hg w (.head _)).2.2 hb.tok hb.val hb.noEq hz h
  | w :: w2 :: l, s, rest, pre, gs, fin, _, hg, hs, hb, hz, h => by
    have e : s ++ (rowText (w :: w2 :: l) ++ rest) = s ++ (attrText w ++ (59 :: 32 :: (rowText (w2 :: l) ++ rest))) := by simp [rowText]
    rw [e] at hz ⊢
    have hz2 : (59 :: 32 :: (rowText (w2 :: l) ++ rest)).length ≤ 100000 := by simp at hz ⊢; lia
    have hz3 : ([] ++ (rowText (w2 :: l) ++ rest)).length ≤ 100000 := by simp at hz ⊢; lia
    have hw := hg w (.head _)
    refine run_attr s w _ pre gs fin hs hw.1 hw.2.1 hw.2.2 (by show tokc 59 = false; decide) (by show valc 59 = false; decide) (.inl ⟨by decide, by decide⟩) hz ?_
    have hg2 : ∀ x ∈ w2 :: l, GoodW x := fun x hx => hg x (.tail _ hx)
    obtain ⟨c, t, e1, hc⟩ := row_head (ws := w2 :: l) (by simp) hg2 rest
    refine run_semi hz2 (by rw [e1]; exact tokc_junk hc) ?_
    have := run_row (w2 :: l) [] rest (pre ++ [toW w]) gs fin (by simp) hg2 (fun _ q => nomatch q) hb hz3 (by simpa using h)
    simpa using this
noncomputable def allText : List (List Wl) → List Nat
  | [] => []
  | [g] => rowText g
  | g :: r => rowText g ++ 44 :: 32 :: allText r
/-- all lists that join has written are read as they were -/
theorem run_all : ∀ (ls : List (List Wl)) (s : List Nat) (gs : List (List Wd)), ls ≠ [] → (∀ g ∈ ls, g ≠ [] ∧ ∀ w ∈ g, GoodW w) → (∀ x ∈ s, sp x = true) → (s ++ allText ls).length ≤ 100000 → Run (S (s ++ allText ls)) [] gs (gs ++ ls.map (·.map toW))
  | [g], s, gs, _, hg, hs, hz => by
    have e : s ++ allText [g] = s ++ (rowText g ++ []) := by simp [allText]
    rw [e] at hz ⊢
    refine run_row g s [] [] gs _ (hg g (.head _)).1 (hg g (.head _)).2 hs trivial hz ?_
    have : gs ++ [g].map (·.map toW) = shut ([] ++ g.map toW) gs := by
      unfold shut
      rw [if_neg (by simp [(hg g (.head _)).1])]
      rfl
    rw [this]
    exact run_done
  | g :: g2 :: l, s, gs, _, hg, hs, hz => by
    have e : s ++ allText (g :: g2 :: l) = s ++ (rowText g ++ (44 :: ([32] ++ allText (g2 :: l)))) := by simp [allText]
    rw [e] at hz ⊢
    have hz2 : (44 :: ([32] ++ allText (g2 :: l))).length ≤ 100000 := by simp at hz ⊢; lia
    have hz3 : ([32] ++ allText (g2 :: l)).length ≤ 100000 := by simp at hz ⊢; lia
    refine run_row g s _ [] gs _ (hg g (.head _)).1 (hg g (.head _)).2 hs (.inl rfl) hz ?_
    refine run_comma hz2 ?_
    have : shut ([] ++ g.map toW) gs = gs ++ [g.map toW] := by
      unfold shut
      rw [if_neg (by simp [(hg g (.head _)).1])]
      rfl
    rw [this]
    have := run_all (g2 :: l) [32] (gs ++ [g.map toW]) (by simp) (fun x hx => hg x (.tail _ hx)) (fun x hx => by rw [List.mem_singleton.mp hx]; decide) hz3
    simpa using this

end
section
theorem txt_join (sep : Str) (l : List Str) : PySem.Txt.join sep l = Str.join sep l := by
  show PySem.Builtin.Str.glued sep l = _
  rw [StrLaws.glued_eq_join]
theorem row_join : ∀ ws : List Wl, PySem.Txt.join (Str.ofString "; ") (ws.map fun w => S (attrText w)) = S (rowText ws) := by
  intro ws
  rw [txt_join]
  have hs : Str.ofString "; " = S [59, 32] := str_of_list (by decide)
  induction ws with
  | nil => rfl
  | cons w r ih =>
    cases r with
    | nil => rfl
    | cons w2 l =>
      show S (attrText w) ++ Str.ofString "; " ++ Str.join _ ((w2 :: l).map fun w => S (attrText w)) = _
      rw [ih, hs, S_app, S_app]
      simp [rowText]
theorem all_join : ∀ ls : List (List Wl), PySem.Txt.join (Str.ofString ", ") (ls.map fun g => S (rowText g)) = S (allText ls) := by
  intro ls
  rw [txt_join]
  have hs : Str.ofString ", " = S [44, 32] := str_of_list (by decide)
  induction ls with
  | nil => rfl
  | cons w r ih =>
    cases r with
    | nil => rfl
    | cons w2 l =>
      show S (rowText w) ++ Str.ofString ", " ++ Str.join _ ((w2 :: l).map fun g => S (rowText g)) = _
      rw [ih, hs, S_app, S_app]
      simp [allText]
theorem row_weight : ∀ ws : List Wl, weight (ws.map fun w => S (attrText w)) ≤ (rowText ws).length
  | [] => Nat.le_refl _
  | [w] => by
    show ((S (attrText w)).cps.size + 0 : Nat) ≤ _
    rw [S_size]; exact Nat.le_refl _
  | w :: w2 :: l => by
    have ih := row_weight (w2 :: l)
    show ((S (attrText w)).cps.size + weight ((w2 :: l).map fun w => S (attrText w)) : Nat) ≤ (attrText w ++ 59 :: 32 :: rowText (w2 :: l)).length
    rw [S_size]; simp only [List.length_append, List.length_cons]; lia
theorem all_weight : ∀ ls : List (List Wl), weight (ls.map fun w => S (rowText w)) ≤ (allText ls).length
  | [] => Nat.le_refl _
  | [w] => by
    show ((S (rowText w)).cps.size + 0 : Nat) ≤ _
    rw [S_size]; exact Nat.le_refl _
  | w :: w2 :: l => by
    have ih := all_weight (w2 :: l)
    show ((S (rowText w)).cps.size + weight ((w2 :: l).map fun w => S (rowText w)) : Nat) ≤ (rowText w ++ 44 :: 32 :: allText (w2 :: l)).length
    rw [S_size]; simp only [List.length_append, List.length_cons]; lia
theorem row_count : ∀ {ws : List Wl}, (∀ w ∈ ws, GoodW w) → ws.length ≤ (rowText ws).length
  | [], _ => Nat.le_refl _
  | [w], h => by
    obtain ⟨c, t, e, _⟩ := attr_head (h w (.head _)) []
    rw [List.append_nil] at e
    show 1 ≤ (attrText w).length
    rw [e]; simp
  | w :: w2 :: l, h => by
    have ih := row_count (ws := w2 :: l) fun x hx => h x (.tail _ hx)
    show (w2 :: l).length + 1 ≤ (attrText w ++ 59 :: 32 :: rowText (w2 :: l)).length
    rw [List.length_append, List.length_cons (a := 59), List.length_cons (a := 32)]; lia
theorem rows_le : ∀ {ls : List (List Wl)}, ∀ g ∈ ls, (rowText g).length ≤ (allText ls).length
  | [g], x, hx => by rw [List.mem_singleton.mp hx]; exact Nat.le_refl _
  | g :: g2 :: l, x, hx => by
    show _ ≤ (rowText g ++ 44 :: 32 :: allText (g2 :: l)).length
    simp only [List.length_append, List.length_cons]
    rcases List.mem_cons.mp hx with rfl | hx
    · lia
    · have := rows_le (ls := g2 :: l) x hx
      lia
theorem all2_map {α β γ : Type} {R : β → γ → Prop} {f : α → β} {k : α → γ} : ∀ {l : List α}, (∀ x ∈ l, R (f x) (k x)) → All2 R (l.map f) (l.map k)
  | [], _ => .nil
  | x :: r, h => .cons (h x (.head _)) (all2_map fun y hy => h y (.tail _ hy))
theorem heads_map : ∀ {ls : List (List Wl)}, (∀ g ∈ ls, g ≠ []) → headsOf (ls.map fun g => g.map fun w => S (attrText w)) = ls.map fun g => S (rowText g)
  | [], _ => rfl
  | g :: r, h => by
    have ih := heads_map (ls := r) fun x hx => h x (.tail _ hx)
    unfold headsOf at *
    rw [List.map_cons, List.filter_cons]
    have : (!(g.map fun w => S (attrText w)).isEmpty) = true := by
      cases g with
      | nil => exact absurd rfl (h [] (.head _))
      | cons a b => rfl
    rw [if_pos this, List.map_cons, ih, row_join]
    rfl
/-- what join makes of the lists -/
theorem join_text (ls : List (List Wl)) (hg : ∀ g ∈ ls, g ≠ [] ∧ ∀ w ∈ g, GoodW w ∧ w.1.length ≤ 100000) (hz : (allText ls).length ≤ 100000) (hl : ls.length ≤ 100000) : JoinText (ls.map (·.map toW)) (S (allText ls)) := by
  refine ⟨ls.map fun g => g.map fun w => S (attrText w), all2_map fun g hx => ⟨all2_map fun w hw => attr_is w ((hg g hx).2 w hw).2 ((hg g hx).2 w hw).1.2.2, ?_, ?_⟩, ?_, ?_, ?_⟩
  · have h1 := row_weight g
    have h2 := rows_le g hx
    have h3 := row_count fun w hw => ((hg g hx).2 w hw).1
    rw [List.length_map]; lia
  · have h2 := rows_le g hx
    have h3 := row_count fun w hw => ((hg g hx).2 w hw).1
    rw [List.length_map]; lia
  · rw [heads_map fun g hx => (hg g hx).1, List.length_map]
    have := all_weight ls
    lia
  · rw [heads_map fun g hx => (hg g hx).1, List.length_map]; exact hl
  · rw [heads_map fun g hx => (hg g hx).1, all_join]

end
section
/-- what the ledger need not name, it may name all the same: everything but some objects -/
theorem carry_all {g h : Heap} {L : Addr} {m : Str → Option Value} (F : Fr g L h m) (X : List Addr) : ∃ rest, News g L h rest ∧ (∀ p ∈ rest, p.1 ∉ X) ∧ (∀ p ∈ rest, p.1 < h.objs.size) ∧ (∀ b o, b ∉ X → b ≠ L → h.get? b = some o → g.get? b = some o ∨ (b, o) ∈ rest) ∧ ∀ h' m', Fr g L h' m' → News g L h' rest → ∀ b o, b ∉ X → b ≠ L → h.get? b = some o → h'.get? b = some o := by
  have key : ∀ n : Nat, n ≤ h.objs.size → ∃ rest, News g L h rest ∧ (∀ p ∈ rest, p.1 ∉ X) ∧ (∀ p ∈ rest, p.1 < h.objs.size) ∧ ∀ b o, @LT.lt Nat _ b n → b ∉ X → b ≠ L → h.get? b = some o → g.get? b = some o ∨ (b, o) ∈ rest := by
    intro n
    induction n with
    | zero => exact fun _ => ⟨[], (fun _ q => nomatch q), (fun _ q => nomatch q), (fun _ q => nomatch q), fun b o q => absurd q (Nat.not_lt_zero _)⟩
    | succ n ih =>
      intro hn
      obtain ⟨rest, h1, h2, h3, h4⟩ := ih (by lia)
      have old : ∀ (r : List (Addr × Obj)), (∀ p ∈ rest, p ∈ r) → (∀ o, (n : Addr) ∉ X → (n : Addr) ≠ L → h.get? n = some o → g.get? n = some o ∨ ((n : Addr), o) ∈ r) → ∀ b o, @LT.lt Nat _ b (n + 1) → b ∉ X → b ≠ L → h.get? b = some o → g.get? b = some o ∨ (b, o) ∈ r := by
        intro r hr hnew b o hb x1 x2 x3
        by_cases q : @LT.lt Nat _ b n
        · exact (h4 b o q x1 x2 x3).imp id (hr _)
        · have e : b = n := by have hb' : @LT.lt Nat _ b (n + 1) := hb; exact Nat.le_antisymm (Nat.le_of_lt_succ hb') (Nat.not_lt.mp q)
          subst e
          exact hnew o x1 x2 x3
      cases hg : g.get? n with
      | some o =>
        refine ⟨rest, h1, h2, h3, old rest (fun _ q => q) fun o' _ _ e => .inl ?_⟩
        have := F.keep _ _ hg
        rw [e] at this; cases this; exact hg
      | none =>
        cases hh : h.get? n with
        | none => exact ⟨rest, h1, h2, h3, old rest (fun _ q => q) fun o' _ _ e => by rw [hh] at e; cases e⟩
        | some o =>
          by_cases q : (n : Addr) ∈ X ∨ (n : Addr) = L
          · exact ⟨rest, h1, h2, h3, old rest (fun _ q => q) fun o' x1 x2 _ => absurd q (by rintro (y | y); exact x1 y; exact x2 y)⟩
          · refine ⟨((n : Addr), o) :: rest, fun p hp => ?_, fun p hp => ?_, fun p hp => ?_, old _ (fun _ q => .tail _ q) fun o' _ _ e => .inr ?_⟩
            · rcases List.mem_cons.mp hp with rfl | hp
              · exact ⟨hh, fun e => q (.inr e), hg⟩
              · exact h1 p hp
            · rcases List.mem_cons.mp hp with rfl | hp
              · exact fun e => q (.inl e)
              · exact h2 p hp
            · rcases List.mem_cons.mp hp with rfl | hp
              · exact Heap.lt_size hh
              · exact h3 p hp
            · rw [hh] at e; cases e; exact .head _
  obtain ⟨rest, h1, h2, h3, h4⟩ := key h.objs.size (Nat.le_refl _)
  refine ⟨rest, h1, h2, h3, fun b o x1 x2 e => h4 b o (Heap.lt_size e) x1 x2 e, fun h' m' F' N' b o x1 x2 e => ?_⟩
  rcases h4 b o (Heap.lt_size e) x1 x2 e with q | q
  · exact F'.keep _ _ q
  · exact (N' _ q).1
/-- the tree as the law holds it, away from some objects -/
noncomputable def TreeL (X : List Addr) (h : Heap) : LT → Value → Prop
  | .leaf n val, v => ∃ a gv t vv, v = .ref a ∧ a ∉ X ∧ h.get? a = some (tupOf [gv, .str (S n) t, vv]) ∧ ValIs (val.map S) vv
  | .node a b c, v => ∃ x va vb vc n, v = .ref x ∧ x ∉ X ∧ h.get? x = some (listOf #[va, vb, vc] n) ∧ TreeL X h a va ∧ TreeL X h b vb ∧ TreeL X h c vc
theorem carry_k {g h : Heap} {L : Addr} {m : Str → Option Value} {P : Prop} (F : Fr g L h m) (X : List Addr) (k : ∀ rest, News g L h rest → (∀ p ∈ rest, p.1 ∉ X) → (∀ b o, b ∉ X → b ≠ L → h.get? b = some o → g.get? b = some o ∨ (b, o) ∈ rest) → (∀ h' m', Fr g L h' m' → News g L h' rest → ∀ b o, b ∉ X → b ≠ L → h.get? b = some o → h'.get? b = some o) → P) : P := by
  obtain ⟨rest, R1, R2, _, R4, R5⟩ := carry_all F X
  exact k rest R1 R2 R4 R5
theorem TreeL.stay {X : List Addr} {h h' : Heap} (k : But X h h') : ∀ {t : LT} {v : Value}, TreeL X h t v → TreeL X h' t v := by
  intro t
  induction t with
  | leaf n0 v0 =>
    rintro v ⟨a, gv, t, vv, h1, h2, h3, h4⟩
    exact ⟨a, gv, t, vv, h1, h2, k _ _ h2 h3, h4⟩
  | node _ _ _ ia ib ic =>
    rintro v ⟨x, va, vb, vc, n, h1, h2, h3, h4, h5, h6⟩
    exact ⟨x, va, vb, vc, n, h1, h2, k _ _ h2 h3, ia h4, ib h5, ic h6⟩
theorem TreeL.away {X Y : List Addr} {h : Heap} (k : ∀ a o, h.get? a = some o → a ∉ X → a ∉ Y) : ∀ {t : LT} {v : Value}, TreeL X h t v → TreeL Y h t v := by
  intro t
  induction t with
  | leaf n0 v0 =>
    rintro v ⟨a, gv, t, vv, h1, h2, h3, h4⟩
    exact ⟨a, gv, t, vv, h1, k _ _ h3 h2, h3, h4⟩
  | node _ _ _ ia ib ic =>
    rintro v ⟨x, va, vb, vc, n, h1, h2, h3, h4, h5, h6⟩
    exact ⟨x, va, vb, vc, n, h1, k _ _ h3 h2, h3, ia h4, ib h5, ic h6⟩
/-- a row of words, away from some objects -/
noncomputable def RowA (X : List Addr) (h : Heap) (v : Value) (ws : List Wd) : Prop := RowH h v ws ∧ ∀ a, v = .ref a → a ∉ X
/-- the lists that are laid, on the heap: l holds the rows, r is the last of them -/
noncomputable def LayH (h : Heap) (l r : Addr) (st : List (List Wl) × List Wl) : Prop := ∃ (its rits : Array Value) (n k : Nat) (pre : List Value), h.get? l = some (listOf its n) ∧ h.get? r = some (listOf rits k) ∧ its.toList = pre ++ [.ref r] ∧
  All2 (RowA [l, r] h) pre (st.1.map (·.map toW)) ∧ All2 (ItemH h) rits.toList (st.2.map toW) ∧ l ≠ r ∧ 82 < l ∧ 82 < r
theorem ItemH.but {X : List Addr} {h h' : Heap} (k : But X h h') (hX : ∀ x ∈ X, ∃ its n, h.get? x = some (listOf its n)) {v : Value} {w : Wd} (x : ItemH h v w) : ItemH h' v w := by
  obtain ⟨a, t, v2, e, h1, h2, r⟩ := x
  refine ⟨a, t, v2, e, h1, k _ _ (fun q => ?_) h2, r⟩
  obtain ⟨its, n, e2⟩ := hX a q
  rw [h2] at e2
  injection e2 with e2
  have : (tupOf [.str w.1 t, v2]).cls = (listOf its n).cls := congrArg Obj.cls e2
  exact absurd this (by simp)
theorem RowA.but {X : List Addr} {h h' : Heap} (k : But X h h') (hX : ∀ x ∈ X, ∃ its n, h.get? x = some (listOf its n)) {v : Value} {w : List Wd} (x : RowA X h v w) : RowA X h' v w := by
  obtain ⟨⟨a, its, n, e, h1, h2, r⟩, hx⟩ := x
  exact ⟨⟨a, its, n, e, h1, k _ _ (hx a e) h2, forall2_mono (fun _ _ => ItemH.but k hX) r⟩, hx⟩
theorem RowA.away {X Y : List Addr} {h : Heap} (k : ∀ a o, h.get? a = some o → a ∉ X → a ∉ Y) {v : Value} {w : List Wd} (x : RowA X h v w) : RowA Y h v w := by
  obtain ⟨⟨a, its, n, e, h1, h2, r⟩, hx⟩ := x
  refine ⟨⟨a, its, n, e, h1, h2, r⟩, fun b hb => ?_⟩
  rw [e] at hb; cases hb
  exact k _ _ h2 (hx _ e)
/-- the lists, as join and split have them -/
theorem LayH.rows {h : Heap} {l r : Addr} {st : List (List Wl) × List Wl} (x : LayH h l r st) : RowsH h (.ref l) ((st.1 ++ [st.2]).map (·.map toW)) := by
  obtain ⟨its, rits, n, k, pre, h1, h2, h3, h4, h5, h6, h7, h8⟩ := x
  refine ⟨l, its, n, rfl, h7, h1, ?_⟩
  rw [h3, List.map_append]
  exact forall2_snoc ⟨r, rits, k, rfl, h8, h2, h5⟩ (forall2_mono (fun _ _ q => q.1) h4)
theorem pick_two {g h : Heap} {L : Addr} {news : List (Addr × Obj)} {a b : Addr × Obj} (N : News g L h news) (ha : a ∈ news) (hb : b ∈ news) : News g L h [a, b] := fun q hq => N q (by
  rcases List.mem_cons.mp hq with rfl | hq
  · exact ha
  · rw [List.mem_singleton.mp hq]; exact hb)

end
section
section
variable {prog : Program} {w : World} {A : Around} {E : Value → Shared → Prop} {s : Shared} {g : Heap} {L a : Addr} {m : Str → Option Value}
theorem add_y {x y z : Str} {t u : Tok} {Q : Value → Shared → Prop} (hz : x ++ y = z) (hsz : z.cps.size ≤ 100000) (h : ∀ t' tk, Q (.str z t') { s with toks := tk }) : wpAny (model prog w) A (binaryOp .Add (.str x t) (.str y u)) Q E s := by
  subst hz
  refine add_K (Nat.le_trans ?_ (Nat.le_trans hsz (by rw [sizeLine_eq]; decide))) h
  rw [← PySem.Str.length_append]
  exact Nat.le_refl _
theorem mul_y {x z : Str} {c : Nat} {t u : Tok} {Q : Value → Shared → Prop} (hz : PySem.Txt.mul x (c : Int) = z) (hx : x.length ≤ 1) (hc : c ≤ 10000) (h : ∀ t' tk, Q (.str z t') { s with toks := tk }) : wpAny (model prog w) A (binaryOp .Mult (.str x t) (.int (c : Int) u)) Q E s := by
  subst hz
  exact SB.mul (mulOk_of 1 10000 hx (by lia) (by lia) (by lia) (by lia)) h
theorem ne_y {x y : Str} {b : Bool} {t u : Tok} {Q : Value → Shared → Prop} (hz : (x != y) = b) (h : Q (.bool b) s) : wpAny (model prog w) A (compareOp .NotEq (.str x t) (.str y u)) Q E s := by
  subst hz
  exact PyProof.Rows.ne_str h
theorem last_y {value slice : PySem.Expr} {l r : Addr} {u : Tok} {its : Array Value} {n : Nat} {pre : List Value} {news : List (Addr × Obj)} {Q : Value → Shared → Prop} (N : News g L s.heap news) (hm : (l, listOf its n) ∈ news) (hp : its.toList = pre ++ [.ref r]) 
    (hs : subscripted slice false (.ref l) (.int (-1) u) = operate [.ref l, .int (-1) u] (getItem (.ref l) (.int (-1) u))) (h : Q (.ref r) s) :
    wpAny (model prog w) A (subscriptTail value slice (.ref l) (.int (-1) u)) Q E s := by
  have hl : s.heap.IsList l its.toList.toArray := ⟨_, (N _ hm).1, rfl, _, by rw [Array.toArray_toList]⟩
  refine kde_neg hl (by decide) (by decide) (j := pre.length) ?_ ?_ h hs
  · rw [hp, List.length_append]
    unfold seqIndex?
    simp
    lia
  · rw [hp, List.getElem?_append_right (Nat.le_refl _)]
    simp
end

end
section
local macro_rules | `(tactic| walk_at "subscriptTail Name UnaryOp ref int") => `(tactic| (k_here; k_dflt ((with_reducible apply last_y); k_asm; k_mem; assumption; with_unfolding_all rfl)))
local macro_rules | `(tactic| walk_at "binaryOp Add str str") => `(tactic| (k_here; (with_reducible apply add_y); with_reducible assumption; assumption; intros))
local macro_rules | `(tactic| walk_at "binaryOp Mult str int") => `(tactic| (k_here; k_dflt ((with_reducible apply mul_y); assumption; exact Nat.le_refl _; assumption); intros))
section
theorem calm_F3 : True := by
  w_top off
  trivial
/-- a leaf without a value -/
theorem lay_leaf0 : ∀ (w : World) (dp un : Nat) (gd : Option (List Code)) (A₀ : Around) (base h₀ : Heap) (outer : List Env) (env : Env) (L : Addr) (m : Str → Option Value) (s : Shared) (p : Program) (loose : List Str) (mean : ExcName → Option Value) (mg mb : Str → Option Value),
    (hd.heap_39 w.params).In h₀ → Below A₀ base outer h₀ → Fr h₀ L s.heap m → Top p loose mean mg mb h₀ → env.frame = some L → env.scope.kind = .function → dp < recursionLimit →
    ∀ (a l r : Addr) (gv : Value) (nm fr z cl z2 : Str) (t tf tc : Tok) (c : Nat) (its rits : Array Value) (n k : Nat) (pre : List Value) (R : Result → Shared → Prop), News h₀ L s.heap [(l, listOf its n), (r, listOf rits k)] → l ≠ r → 82 < l → its.toList = pre ++ [.ref r] → rits.size ≤ 100000 →
    s.heap.get? a = some (tupOf [gv, .str nm t, .none]) → a ∉ List.map (·.1) [(l, listOf its n), (r, listOf rits k)] → fr ++ nm = z → PySem.Txt.mul (Str.ofString ")") (c : Int) = cl → c ≤ 10000 → z ++ cl = z2 → z.cps.size ≤ 100000 → z2.cps.size ≤ 100000 →
    (∀ h' t' D u, But [l, r] s.heap h' → h'.get? l = some (listOf its n) → h'.get? r = some (listOf (rits.push (.ref D)) (k + 1)) → h'.get? D = some (tupOf [.str z2 u, .none]) → 82 < D → R (.ok (.ret .none)) { s with heap := h', toks := t' }) →
    codeAny (model PySem.Challenge.rw_kl0472_01.row.prog w) ⟨none, dp, some (env :: outer), gd, un⟩ (.call (.ref 152) ⟨[.ref a, .str fr tf, .int (c : Int) tc, .ref l], []⟩) R s := by
  k_fill
  intro w dp un gd A₀ base h₀ outer env L m s p loose mean mg mb X B F T0 hf hke hroom0 a l r gv nm fr z cl z2 t tf tc c its rits n k pre R N hlr hl82 hpre hrz ha hal hz hcl hc hz2 hzz hzz2 kk
  have hlr' := neN hlr
  k_dflt (refine' code_mine (K := hd.heap_39 w.params) ?k1 ?k2 ?k3 ?k4 ?k5 ?kA ?kF ?kK ?k6 ?k7 ?k8 ?k9 ?kB ?_ ?c2 ?c3 ?c4 ?c5; (case kA => exact rfl); (case kF => exact hf); (case kK => exact hke); (case k1 => k_asm); (case k2 => k_asm); (case k3 => k_asm); (case k4 => k_asm); (case k5 => k_asm); (case k6 => k_is); (case k7 => k_is); (case k8 => exact hroom0); (case k9 => first | exact BindsTo.of_eq rfl | exact binds_K (by k_in) rfl (by k_is) rfl rfl rfl); (case c5 => decide); (case kB => exact locs rfl); (case c2 => exact rfl); (case c3 => exact rfl); (case c4 => exact rfl); k_whole; intro g' L' h' kp st F' N' B' X' T'; (try dsimp only); (try k_fold))
  have hga := kp _ _ hal ha
  k_steps
  (with_reducible rename Fr g' _ _ _ => kF)
  (with_reducible rename News g' _ _ _ => kN)
  (with_reducible rename _ < _ ∧ _ => kl)
  exact kk _ _ _ _ (fun b o hb e => kF.keep _ _ (kp b o hb e)) (kN _ (.tail _ (.head _))).1 (kN _ (.tail _ (.tail _ (.head _)))).1 (kN _ (.head _)).1 (ltN (by have a1 := ltN hl82; have a2 := kl.1; lia))

end
theorem calm_F4 : True := by
  w_top off
  trivial
noncomputable abbrev notAB (a : Str) : Bool := !(!(Builtin.Str.occurrences (Str.ofString "a-") a 0 (Str.ofString "a-").length 1).isEmpty)
theorem eq_none {prog : Program} {w : World} {A : Around} {E : Value → Shared → Prop} {s : Shared} {g : Heap} {L a b : Addr} {news : List (Addr × Obj)} {ys : List Value} {zs : List PyData} {n k : Nat} {e : Bool} {Q : Value → Shared → Prop} (N : News g L s.heap news) (ha : (a, listOf ys.toArray n) ∈ news) (hb : (b, listOf #[] k) ∈ news)
    (hc : CarriedAll ys zs) (he : zs.isEmpty = e) (hu : A.units < cLine) (h : Q (.bool e) s) : wpAny (model prog w) A (compareOp .Eq (.ref a) (.ref b)) Q E s := by
  have h1 : s.heap.IsList a ys.toArray := ⟨_, (N _ ha).1, rfl, _, rfl⟩
  have h2 : s.heap.IsList b #[] := ⟨_, (N _ hb).1, rfl, _, rfl⟩
  cases zs with
  | nil =>
    cases hc
    cases he
    exact SeqAt.eq_listAt (e := fun _ => true) h1 h2 rfl hu (fun j q => absurd q (Nat.not_lt_zero _)) h
  | cons z r =>
    cases hc with
    | cons c1 c2 =>
      cases he
      exact SeqAt.eq_list_lengthsAt h1 h2 rfl hu h
theorem src_a {prog : Program} {w : World} {A : Around} {E : Value → Shared → Prop} {s₁ : Shared} {h₀ : Heap} {L : Addr} {m : Str → Option Value} {news : List (Addr × Obj)} {env : Env} {elt : PySem.Expr} {x : Str} {ifs : List PySem.Expr} {scope : Scope} {Q : Value → Shared → Prop} {y : Str} {t : Tok}
    (hh : A.handled = none) (F : Fr h₀ L s₁.heap m) (N : News h₀ L s₁.heap news) (hsz : y.length ≤ 100000)
    (g1 : ∀ C a u s₂ m₂ E', s₂.heap.Ns (compEnv scope C env).locals m₂ → m₂ x = some (.str a u) → s₁.toks ≤ s₂.toks →
        wpAny (model prog w) A (forIn ifs true fun c r => if r = true then do let ok ← isTrue c (compEnv scope C env) (eval c (compEnv scope C env)); pure (ForInStep.yield ok) else pure (ForInStep.yield r))
          (fun ok s₃ => ok = notAB a ∧ Keeps s₂ s₃) E' s₂)
    (g2 : ∀ C a u s₂ m₂ E', notAB a = true → s₂.heap.Ns (compEnv scope C env).locals m₂ → m₂ x = some (.str a u) → s₁.toks ≤ s₂.toks → wpAny (model prog w) A (eval elt (compEnv scope C env)) (fun r s₃ => Carried r (PyData.str a) ∧ Keeps s₂ s₃) E' s₂)
    (g3 : ∀ D (ys : List Value) h' tk, Fr h₀ L h' m → News h₀ L h' news → h₀.get? D = none → h'.IsList D ys.toArray → NewPlain h' news D ys.toArray → CarriedAll ys (((signs y).filter notAB).map PyData.str) → Q (.ref D) { s₁ with heap := h', toks := tk }) :
    wpAny (model prog w) A (pyIter (.str y t)) (CompPost prog w A env scope x ifs elt Q) E s₁ :=
  srcC_signsD hh F N (fun C a v s₂ m₂ E' i hn hv ht => by obtain ⟨u, rfl⟩ := ItemKind.str_is i; exact g1 C a u s₂ m₂ E' hn hv ht) (fun C a v s₂ m₂ E' i hp hn hv ht => by obtain ⟨u, rfl⟩ := ItemKind.str_is i; exact g2 C a u s₂ m₂ E' hp hn hv ht) g3 (line_100 hsz)
local macro_rules | `(tactic| walk_at "compareOp NotEq str str") => `(tactic| (k_here; (with_reducible apply ne_y); assumption))
local macro_rules | `(tactic| walk_at "pyIter str") => `(tactic| ((with_reducible apply src_a); with_unfolding_all rfl; (iterate 2 with_unfolding_all assumption); assumption; (all_goals intros); all_goals try with_reducible apply wpAny_leafK))
local macro_rules | `(tactic| walk_at "compareOp Eq ref ref") => `(tactic| (k_here; k_dflt ((with_reducible apply eq_none); k_asm; k_mem; k_mem; (iterate 3 assumption))))
/-- a leaf with a bare value -/
theorem lay_leaf1 : ∀ (w : World) (dp un : Nat) (gd : Option (List Code)) (A₀ : Around) (base h₀ : Heap) (outer : List Env) (env : Env) (L : Addr) (m : Str → Option Value) (s : Shared) (p : Program) (loose : List Str) (mean : ExcName → Option Value) (mg mb : Str → Option Value),
    (hd.heap_39 w.params).In h₀ → Below A₀ base outer h₀ → Fr h₀ L s.heap m → Top p loose mean mg mb h₀ → env.frame = some L → env.scope.kind = .function → dp < recursionLimit → un + 10 < cLine →
    ∀ (a l r : Addr) (gv : Value) (nm fr z cl vv z2 : Str) (t tf tc tv : Tok) (c : Nat) (its rits : Array Value) (n k : Nat) (pre : List Value) (R : Result → Shared → Prop), News h₀ L s.heap [(l, listOf its n), (r, listOf rits k)] → l ≠ r → 82 < l → its.toList = pre ++ [.ref r] → rits.size ≤ 100000 →
    s.heap.get? a = some (tupOf [gv, .str nm t, .str vv tv]) → a ∉ List.map (·.1) [(l, listOf its n), (r, listOf rits k)] → fr ++ nm = z → PySem.Txt.mul (Str.ofString ")") (c : Int) = cl → c ≤ 10000 → vv ++ cl = z2 → vv.length ≤ 100000 → (vv != Str.ofString "") = true → (List.map PyData.str (List.filter notAB (signs vv))).isEmpty = true → z.cps.size ≤ 100000 → z2.cps.size ≤ 100000 →
    (∀ h' t' D u u2, But [l, r] s.heap h' → h'.get? l = some (listOf its n) → h'.get? r = some (listOf (rits.push (.ref D)) (k + 1)) → h'.get? D = some (tupOf [.str z u, .str z2 u2]) → 82 < D → R (.ok (.ret .none)) { s with heap := h', toks := t' }) →
    codeAny (model PySem.Challenge.rw_kl0472_01.row.prog w) ⟨none, dp, some (env :: outer), gd, un⟩ (.call (.ref 152) ⟨[.ref a, .str fr tf, .int (c : Int) tc, .ref l], []⟩) R s := by
  k_fill
  intro w dp un gd A₀ base h₀ outer env L m s p loose mean mg mb X B F T0 hf hke hroom0 hun a l r gv nm fr z cl vv z2 t tf tc tv c its rits n k pre R N hlr hl82 hpre hrz ha hal hz hcl hc hz2 hvz hne hab hzz hzz2 kk
  have hlr' := neN hlr
  have hun3 : un + 3 < cLine := by lia
  k_dflt (refine' code_mine (K := hd.heap_39 w.params) ?k1 ?k2 ?k3 ?k4 ?k5 ?kA ?kF ?kK ?k6 ?k7 ?k8 ?k9 ?kB ?_ ?c2 ?c3 ?c4 ?c5; (case kA => exact rfl); (case kF => exact hf); (case kK => exact hke); (case k1 => k_asm); (case k2 => k_asm); (case k3 => k_asm); (case k4 => k_asm); (case k5 => k_asm); (case k6 => k_is); (case k7 => k_is); (case k8 => exact hroom0); (case k9 => first | exact BindsTo.of_eq rfl | exact binds_K (by k_in) rfl (by k_is) rfl rfl rfl); (case c5 => decide); (case kB => exact locs rfl); (case c2 => exact rfl); (case c3 => exact rfl); (case c4 => exact rfl); k_whole; intro g' L' h' kp st F' N' B' X' T'; (try dsimp only); (try k_fold))
  have hga := kp _ _ hal ha
  k_steps
  (with_reducible rename Fr g' _ _ _ => kF)
  (with_reducible rename News g' _ _ _ => kN)
  exact kk _ _ _ _ _ (fun b o hb e => kF.keep _ _ (kp b o hb e)) (kN _ (.tail _ (.tail _ (.tail _ (.head _))))).1 (kN _ (.tail _ (.tail _ (.tail _ (.tail _ (.head _)))))).1 (kN _ (.head _)).1 (ltN (by have a1 := ltN hl82; lia))

theorem calm_F5 : True := by
  w_top off
  trivial
local macro_rules | `(tactic| walk_at "idle") => `(tactic| fail)
theorem news_at {g h : Heap} {L a : Addr} {o : Obj} {news : List (Addr × Obj)} (N : News g L h news) (x : (a, o) ∈ news) : h.get? a = some o := (N _ x).1
/-- a leaf with a value in marks -/
theorem lay_leaf2 : ∀ (w : World) (dp un : Nat) (gd : Option (List Code)) (A₀ : Around) (base h₀ : Heap) (outer : List Env) (env : Env) (L : Addr) (m : Str → Option Value) (s : Shared) (p : Program) (loose : List Str) (mean : ExcName → Option Value) (mg mb : Str → Option Value),
    (hd.heap_39 w.params).In h₀ → Below A₀ base outer h₀ → Fr h₀ L s.heap m → Top p loose mean mg mb h₀ → env.frame = some L → env.scope.kind = .function → dp < recursionLimit → un + 10 < cLine →
    ∀ (a l r : Addr) (gv : Value) (nm fr z cl vv : Str) (t tf tc tv : Tok) (c : Nat) (its rits : Array Value) (n k : Nat) (pre : List Value) (R : Result → Shared → Prop), News h₀ L s.heap [(l, listOf its n), (r, listOf rits k)] → l ≠ r → 82 < l → its.toList = pre ++ [.ref r] → rits.size + 1 ≤ 100000 →
    s.heap.get? a = some (tupOf [gv, .str nm t, .str vv tv]) → a ∉ List.map (·.1) [(l, listOf its n), (r, listOf rits k)] → fr ++ nm = z → PySem.Txt.mul (Str.ofString ")") (c : Int) = cl → c ≤ 10000 → vv.length ≤ 100000 → ((vv != Str.ofString "") = false ∨ (vv != Str.ofString "") = true ∧ (List.map PyData.str (List.filter notAB (signs vv))).isEmpty = false) → z.cps.size ≤ 100000 → cl.cps.size ≤ 100000 →
    (∀ h' t' D u u2, c = 0 → But [l, r] s.heap h' → h'.get? l = some (listOf its n) → h'.get? r = some (listOf (rits.push (.ref D)) (k + 1)) → h'.get? D = some (tupOf [.str z u, .str vv u2]) → 82 < D → R (.ok (.ret .none)) { s with heap := h', toks := t' }) →
    (∀ h' t' D u u2 D2 u3, 0 < c → But [l, r] s.heap h' → h'.get? l = some (listOf its n) → h'.get? r = some (listOf ((rits.push (.ref D)).push (.ref D2)) (k + 1 + 1)) → h'.get? D = some (tupOf [.str z u, .str vv u2]) → h'.get? D2 = some (tupOf [.str cl u3, .none]) → 82 < D → 82 < D2 → R (.ok (.ret .none)) { s with heap := h', toks := t' }) →
    codeAny (model PySem.Challenge.rw_kl0472_01.row.prog w) ⟨none, dp, some (env :: outer), gd, un⟩ (.call (.ref 152) ⟨[.ref a, .str fr tf, .int (c : Int) tc, .ref l], []⟩) R s := by
  k_fill
  intro w dp un gd A₀ base h₀ outer env L m s p loose mean mg mb X B F T0 hf hke hroom0 hun a l r gv nm fr z cl vv t tf tc tv c its rits n k pre R N hlr hl82 hpre hrz ha hal hz hcl hc hvz hab hzz hzz2 kk kk2
  have hlr' := neN hlr
  have hun3 : un + 3 < cLine := by lia
  k_dflt (refine' code_mine (K := hd.heap_39 w.params) ?k1 ?k2 ?k3 ?k4 ?k5 ?kA ?kF ?kK ?k6 ?k7 ?k8 ?k9 ?kB ?_ ?c2 ?c3 ?c4 ?c5; (case kA => exact rfl); (case kF => exact hf); (case kK => exact hke); (case k1 => k_asm); (case k2 => k_asm); (case k3 => k_asm); (case k4 => k_asm); (case k5 => k_asm); (case k6 => k_is); (case k7 => k_is); (case k8 => exact hroom0); (case k9 => first | exact BindsTo.of_eq rfl | exact binds_K (by k_in) rfl (by k_is) rfl rfl rfl); (case c5 => decide); (case kB => exact locs rfl); (case c2 => exact rfl); (case c3 => exact rfl); (case c4 => exact rfl); k_whole; intro g' L' h' kp st F' N' B' X' T'; (try dsimp only); (try k_fold))
  have hga := kp _ _ hal ha
  have hrz1 : rits.size ≤ 100000 := by lia
  have hl82' := ltN hl82
  rcases hab with hne | ⟨hne, hab⟩
  all_goals k_steps
  all_goals (with_reducible rename Fr g' _ _ _ => kF)
  all_goals (with_reducible rename News g' _ _ _ => kN)
  all_goals first
    | exact kk2 _ _ _ _ _ _ _ (by lia) (fun b o hb e => kF.keep _ _ (kp b o hb e)) (news_at kN (by k_mem)) (news_at kN (by k_mem)) (news_at kN (by k_mem)) (news_at kN (by k_mem)) (ltN (by lia)) (ltN (by lia))
    | exact kk _ _ _ _ _ (by lia) (fun b o hb e => kF.keep _ _ (kp b o hb e)) (news_at kN (by k_mem)) (news_at kN (by k_mem)) (news_at kN (by k_mem)) (ltN (by lia))

end
section

theorem mul_closes (c : Nat) : PySem.Txt.mul (Str.ofString ")") (c : Int) = S (closes c) := by
  refine str_of_list ?_
  have h : Str.ofString ")" = ⟨#[41]⟩ := by decide
  rw [h, mul_one_list]
  simp [closes]
theorem ne_nil (w : List Nat) : (S w != Str.ofString "") = !w.isEmpty := by
  cases w with
  | nil => decide
  | cons a r =>
    show _ = true
    rw [bne_iff_ne]
    intro h
    have := congrArg (fun x : Str => x.cps.size) h
    rw [S_size] at this
    cases this
/-- the ten signs of a value -/
noncomputable abbrev signs10 : List Nat := [97, 45, 34, 92, 32, 44, 59, 61, 41, 10]
theorem notAB_ten : ∀ c ∈ signs10, notAB ⟨#[c]⟩ = !(c == 97 || c == 45) := by decide +kernel
theorem comp_is (w : List Nat) (h : ∀ c ∈ w, c ∈ signs10) : (List.map PyData.str (List.filter notAB (PyProof.Rows.signs (S w)))).isEmpty = w.all (fun c => c == 97 || c == 45) := by
  have e : PyProof.Rows.signs (S w) = w.map (fun c => ⟨#[c]⟩) := rfl
  rw [e]
  clear e
  induction w with
  | nil => rfl
  | cons a r ih =>
    have ih := ih fun c hc => h c (.tail _ hc)
    have ha := notAB_ten a (h a (.head _))
    rw [List.map_cons, List.filter_cons, ha, List.all_cons]
    by_cases q : (a == 97 || a == 45) = true
    · rw [q, if_neg (by decide)]
      rw [ih]; rfl
    · rw [Bool.not_eq_true] at q
      rw [q, if_pos (by decide)]; rfl

end
section
noncomputable def LT.fine : LT → Prop
  | .leaf n v => n.length ≤ 10000 ∧ ∀ w, v = some w → w.length ≤ 10000 ∧ ∀ c ∈ w, c ∈ signs10
  | .node a b d => a.fine ∧ b.fine ∧ d.fine
noncomputable def LT.depth : LT → Nat
  | .leaf _ _ => 0
  | .node a b c => 1 + max a.depth (max b.depth c.depth)
noncomputable def LT.size : LT → Nat
  | .leaf _ _ => 1
  | .node a b c => 1 + a.size + b.size + c.size
theorem lay_count : ∀ (t : LT) (f : List Nat) (c : Nat) (st : List (List Wl) × List Wl), (lay t f c st).1.length + (lay t f c st).2.length ≤ st.1.length + st.2.length + 2 * t.size
  | .leaf n v, f, c, (gs, ws) => by
    show gs.length + (ws ++ leafWords f c n v).length ≤ gs.length + ws.length + 2
    rw [List.length_append]
    cases v with
    | none => simp [leafWords]; lia
    | some w =>
      by_cases q : bareOk w = true
      · simp [leafWords, q]; lia
      · by_cases q2 : 0 < c <;> simp [leafWords, q, q2] <;> lia
  | .node a b d, f, c, st => by
    have h1 := lay_count a f 0 st
    have h2 := lay_count b [40] 0 (lay a f 0 st)
    have h3 := lay_count d [] (c + 1) ((lay b [40] 0 (lay a f 0 st)).1 ++ [(lay b [40] 0 (lay a f 0 st)).2], [lineW])
    have e : lay (.node a b d) f c st = lay d [] (c + 1) ((lay b [40] 0 (lay a f 0 st)).1 ++ [(lay b [40] 0 (lay a f 0 st)).2], [lineW]) := rfl
    rw [e]
    dsimp only [List.length_append, List.length_singleton, LT.size] at h3 ⊢
    simp only [List.length_append, List.length_singleton] at h3 ⊢
    lia
/-- the claim on _law_lay, for one tree -/
noncomputable def LayOk (t : LT) : Prop := ∀ (w : World) (dp un : Nat) (gd : Option (List Code)) (A₀ : Around) (base h₀ : Heap) (outer : List Env) (env : Env) (L : Addr) (m : Str → Option Value) (s : Shared) (p : Program) (loose : List Str) (mean : ExcName → Option Value) (mg mb : Str → Option Value),
    (hd.heap_39 w.params).In h₀ → Below A₀ base outer h₀ → Fr h₀ L s.heap m → Top p loose mean mg mb h₀ → env.frame = some L → env.scope.kind = .function → dp + t.depth + 3 < recursionLimit → un + 10 * t.depth + 100 < cLine →
    ∀ (v : Value) (fr : List Nat) (tf tc : Tok) (c : Nat) (l r : Addr) (st : List (List Wl) × List Wl) (R : Result → Shared → Prop), LayH s.heap l r st → h₀.get? l = none → l ≠ L → h₀.get? r = none → r ≠ L →
    TreeL [l, r] s.heap t v → t.fine → fr.length ≤ 10 → c + t.depth ≤ 1000 → st.1.length + st.2.length + 4 * t.size ≤ 50000 →
    (∀ h' t' r', But [l, r] s.heap h' → LayH h' l r' (lay t fr c st) → (r' = r ∨ s.heap.get? r' = none) → R (.ok (.ret .none)) { s with heap := h', toks := t' }) →
    codeAny (model PySem.Challenge.rw_kl0472_01.row.prog w) ⟨none, dp, some (env :: outer), gd, un⟩ (.call (.ref 152) ⟨[v, .str (S fr) tf, .int (c : Int) tc, .ref l], []⟩) R s
theorem forall2_app {α β : Type} {R : α → β → Prop} : ∀ {l l2 : List α} {k k2 : List β}, All2 R l k → All2 R l2 k2 → All2 R (l ++ l2) (k ++ k2)
  | _, _, _, _, .nil, y => y
  | _, _, _, _, .cons x r, y => .cons x (forall2_app r y)
/-- the last row has grown -/
theorem LayH.grow {h h' : Heap} {l r : Addr} {its rits rits' : Array Value} {n k k' : Nat} {pre : List Value} {gs : List (List Wl)} {ws ws' : List Wl} {more : List Value} (b : But [l, r] h h') (h1 : h.get? l = some (listOf its n)) (h2 : h.get? r = some (listOf rits k)) (h3 : its.toList = pre ++ [.ref r])
    (h4 : All2 (RowA [l, r] h) pre (gs.map (·.map toW))) (h5 : All2 (ItemH h) rits.toList (ws.map toW)) (h6 : l ≠ r) (h7 : 82 < l) (h8 : 82 < r)
    (e1 : h'.get? l = some (listOf its n)) (e2 : h'.get? r = some (listOf rits' k')) (e3 : rits'.toList = rits.toList ++ more) (e4 : All2 (ItemH h') more (ws'.map toW)) : LayH h' l r (gs, ws ++ ws') := by
  have hX : ∀ x ∈ [l, r], ∃ its n, h.get? x = some (listOf its n) := by
    intro x hx
    rcases List.mem_cons.mp hx with rfl | hx
    · exact ⟨_, _, h1⟩
    · rw [List.mem_singleton.mp hx]; exact ⟨_, _, h2⟩
  refine ⟨its, rits', n, k', pre, e1, e2, h3, forall2_mono (fun _ _ => RowA.but b hX) h4, ?_, h6, h7, h8⟩
  rw [e3, List.map_append]
  exact forall2_app (forall2_mono (fun _ _ => ItemH.but b hX) h5) e4
theorem lay_leaf (n : List Nat) (val : Option (List Nat)) : LayOk (.leaf n val) := by
  intro w dp un gd A₀ base h₀ outer env L m s p loose mean mg mb X B F T0 hf hke hroom hun v fr tf tc c l r st R hL hl0 hlL hr0 hrL hT hfi hfr hc hst k
  obtain ⟨its, rits, n', k', pre, h1, h2, h3, h4, h5, h6, h7, h8⟩ := hL
  obtain ⟨gs, ws⟩ := st
  have hN : News h₀ L s.heap [(l, listOf its n'), (r, listOf rits k')] := by
    intro q hq
    rcases List.mem_cons.mp hq with rfl | hq
    · exact ⟨h1, hlL, hl0⟩
    · rw [List.mem_singleton.mp hq]; exact ⟨h2, hrL, hr0⟩
  have hrz : rits.size + 1 ≤ 100000 := by
    have e := h5.len
    rw [List.length_map, Array.length_toList] at e
    have : gs.length + ws.length + 4 * 1 ≤ 50000 := hst
    lia
  have hroom0 : dp < recursionLimit := by lia
  have hc0 : c ≤ 1000 := by lia
  obtain ⟨a, gv, t, vv, rfl, ha, hg, hv⟩ := hT
  have e1 : S fr ++ S n = S (fr ++ n) := S_app _ _
  have hcl := mul_closes c
  have hcln : (closes c).length = c := List.length_replicate
  have hz1 : (S (fr ++ n)).cps.size ≤ 100000 := by rw [S_size, List.length_append]; have := hfi.1; lia
  cases val with
  | none =>
    cases hv
    refine lay_leaf0 w dp un gd A₀ base h₀ outer env L m s p loose mean mg mb X B F T0 hf hke hroom0 a l r gv (S n) (S fr) (S (fr ++ n)) (S (closes c)) (S (fr ++ n ++ closes c)) t tf tc c its rits n' k' pre R hN h6 h7 h3 (by lia) hg ha e1 hcl (by lia) (S_app _ _) hz1 (by rw [S_size, List.length_append, List.length_append]; have := hfi.1; lia) ?_
    intro h' t' D u b q1 q2 q3 q4
    refine k h' t' r b (LayH.grow (ws' := leafWords fr c n none) b h1 h2 h3 h4 h5 h6 h7 h8 q1 q2 (more := [.ref D]) (by rw [Array.toList_push]) (.cons ⟨D, u, .none, rfl, q4, q3, rfl⟩ .nil)) (.inl rfl)
  | some vl =>
    obtain ⟨tv, rfl⟩ := hv
    obtain ⟨hv1, hv2⟩ := hfi.2 vl rfl
    have hvz : (S vl).length ≤ 100000 := by show (S vl).cps.size ≤ _; rw [S_size]; lia
    have hcomp := comp_is vl hv2
    have hnn := ne_nil vl
    by_cases hb : bareOk vl = true
    · have hb' := hb
      unfold bareOk at hb'
      rw [Bool.and_eq_true] at hb'
      refine lay_leaf1 w dp un gd A₀ base h₀ outer env L m s p loose mean mg mb X B F T0 hf hke hroom0 (by lia) a l r gv (S n) (S fr) (S (fr ++ n)) (S (closes c)) (S vl) (S (vl ++ closes c)) t tf tc tv c its rits n' k' pre R hN h6 h7 h3 (by lia) hg ha e1 hcl (by lia) (S_app _ _) hvz (by rw [hnn]; exact hb'.1) (by rw [hcomp]; exact hb'.2) hz1 (by rw [S_size, List.length_append]; lia) ?_
      intro h' t' D u u2 b q1 q2 q3 q4
      have ew : leafWords fr c n (some vl) = [(fr ++ n, some (vl ++ closes c))] := by simp [leafWords, hb]
      exact k h' t' r b (LayH.grow (ws' := leafWords fr c n (some vl)) b h1 h2 h3 h4 h5 h6 h7 h8 q1 q2 (more := [.ref D]) (by rw [Array.toList_push]) (by rw [ew]; exact .cons ⟨D, u, _, rfl, q4, q3, ⟨u2, rfl⟩⟩ .nil)) (.inl rfl)
    · have hb0 : bareOk vl = false := by simpa using hb
      have hcase : (S vl != Str.ofString "") = false ∨ (S vl != Str.ofString "") = true ∧ (List.map PyData.str (List.filter notAB (PyProof.Rows.signs (S vl)))).isEmpty = false := by
        rw [hnn, hcomp]
        unfold bareOk at hb0
        cases q : !vl.isEmpty with
        | false => exact .inl rfl
        | true =>
          rw [q, Bool.true_and] at hb0
          exact .inr ⟨rfl, hb0⟩
      refine lay_leaf2 w dp un gd A₀ base h₀ outer env L m s p loose mean mg mb X B F T0 hf hke hroom0 (by lia) a l r gv (S n) (S fr) (S (fr ++ n)) (S (closes c)) (S vl) t tf tc tv c its rits n' k' pre R hN h6 h7 h3 hrz hg ha e1 hcl (by lia) hvz hcase hz1 (by rw [S_size]; lia) ?_ ?_
      · intro h' t' D u u2 hc1 b q1 q2 q3 q4
        have ew : leafWords fr c n (some vl) = [(fr ++ n, some vl)] := by simp [leafWords, hb0, hc1]
        exact k h' t' r b (LayH.grow (ws' := leafWords fr c n (some vl)) b h1 h2 h3 h4 h5 h6 h7 h8 q1 q2 (more := [.ref D]) (by rw [Array.toList_push]) (by rw [ew]; exact .cons ⟨D, u, _, rfl, q4, q3, ⟨u2, rfl⟩⟩ .nil)) (.inl rfl)
      · intro h' t' D u u2 D2 u3 hc1 b q1 q2 q3 q4 q5 q6
        have ew : leafWords fr c n (some vl) = [(fr ++ n, some vl), (closes c, none)] := by simp [leafWords, hb0, hc1]
        exact k h' t' r b (LayH.grow (ws' := leafWords fr c n (some vl)) b h1 h2 h3 h4 h5 h6 h7 h8 q1 q2 (more := [.ref D, .ref D2]) (by rw [Array.toList_push, Array.toList_push, List.append_assoc]; rfl) (by rw [ew]; exact .cons ⟨D, u, _, rfl, q5, q3, ⟨u2, rfl⟩⟩ (.cons ⟨D2, u3, .none, rfl, q6, q4, rfl⟩ .nil))) (.inl rfl)

end
section
/-- lists and tuples stay, but for some -/
noncomputable def ButS (X : List Addr) (h h' : Heap) : Prop := ∀ b o its n, o.data = .seq its n → b ∉ X → h.get? b = some o → h'.get? b = some o
theorem ItemH.butS {X : List Addr} {h h' : Heap} (k : ButS X h h') (hX : ∀ x ∈ X, ∃ its n, h.get? x = some (listOf its n)) {v : Value} {w : Wd} (x : ItemH h v w) : ItemH h' v w := by
  obtain ⟨a, t, v2, e, h1, h2, r⟩ := x
  refine ⟨a, t, v2, e, h1, k _ _ _ _ rfl (fun q => ?_) h2, r⟩
  obtain ⟨its, n, e2⟩ := hX a q
  rw [h2] at e2
  injection e2 with e2
  have : (tupOf [.str w.1 t, v2]).cls = (listOf its n).cls := congrArg Obj.cls e2
  exact absurd this (by simp)
theorem RowA.butS {X Y : List Addr} {h h' : Heap} (k : ButS X h h') (hX : ∀ x ∈ X, ∃ its n, h.get? x = some (listOf its n)) (hY : ∀ a its n, h.get? a = some (listOf its n) → a ∉ Y) {v : Value} {w : List Wd} (hv : ∀ a, v = .ref a → a ∉ X) (x : RowH h v w) : RowA Y h' v w := by
  obtain ⟨a, its, n, e, h1, h2, r⟩ := x
  refine ⟨⟨a, its, n, e, h1, k _ _ _ _ rfl (hv a e) h2, forall2_mono (fun _ _ => ItemH.butS k hX) r⟩, fun b hb => ?_⟩
  rw [e] at hb; cases hb
  exact hY _ _ _ h2
theorem frame_not {h : Heap} {L a : Addr} {m : Str → Option Value} {its : Array Value} {n : Nat} {o : Obj} (N : h.Ns L m) (e : h.get? a = some o) (d : o.data = .seq its n) : a ≠ L := by
  intro q
  obtain ⟨o', es, ep, e1, e2, _⟩ := N
  rw [← q, e] at e1
  cases e1
  rw [d] at e2; cases e2
theorem all2_in {α β : Type} {R S : α → β → Prop} : ∀ {l : List α} {k : List β}, (∀ a ∈ l, ∀ b, R a b → S a b) → All2 R l k → All2 S l k
  | _, _, _, .nil => .nil
  | _, _, h, .cons x r => .cons (h _ (.head _) _ x) (all2_in (fun a ha b => h a (.tail _ ha) b) r)
/-- a new row is begun -/
theorem lay_new {g h h' : Heap} {L l r D1 D2 : Addr} {m m' : Str → Option Value} {gs : List (List Wl)} {ws : List Wl} {rest : List (Addr × Obj)} {its : Array Value} {n n2 k : Nat} {t : Tok} (F : h.Ns L m) (hL : LayH h l r (gs, ws)) (e1 : h.get? l = some (listOf its n))
    (ab : ∀ b o, b ∉ [l] → b ≠ L → h.get? b = some o → g.get? b = some o ∨ (b, o) ∈ rest) (F' : Fr g L h' m') (N' : News g L h' ((l, listOf (its.push (.ref D2)) n2) :: (D2, listOf #[.ref D1] k) :: (D1, tupOf [.str (Str.ofString "line") t, .none]) :: rest)) (hD2 : ∀ p ∈ rest, p.1 < D2) (hlD : l < D2) (hl1 : l < D1) :
    LayH h' l D2 (gs ++ [ws], [lineW]) := by
  obtain ⟨its0, rits, n0, k0, pre, h1, h2, h3, h4, h5, h6, h7, h8⟩ := hL
  rw [e1] at h1
  have hits : its = its0 := by injection h1 with q; injection q with _ _ q _; injection q
  subst hits
  have hD0 : g.get? D2 = none := (N' _ (.tail _ (.head _))).2.2
  have fresh : h.get? D2 = none := by
    cases q : h.get? D2 with
    | none => rfl
    | some o =>
      have nl : D2 ∉ [l] := fun z => by rw [List.mem_singleton] at z; exact absurd hlD (z ▸ Nat.lt_irrefl _)
      have nL : D2 ≠ L := (N' _ (.tail _ (.head _))).2.1
      rcases ab _ _ nl nL q with z | z
      · rw [hD0] at z; cases z
      · exact absurd (hD2 _ z) (Nat.lt_irrefl _)
  have kS : ButS [l] h h' := by
    intro b o its n d hb e
    rcases ab b o hb (frame_not F e d) e with q | q
    · exact F'.keep _ _ q
    · exact (N' _ (.tail _ (.tail _ (.tail _ q)))).1
  have hX : ∀ x ∈ [l], ∃ its n, h.get? x = some (listOf its n) := fun x hx => by rw [List.mem_singleton.mp hx]; exact ⟨_, _, e1⟩
  have hY : ∀ (a : Addr) its n, h.get? a = some (listOf its n) → a ≠ l → a ∉ [l, D2] := by
    intro a its n e q hm
    rcases List.mem_cons.mp hm with z | z
    · exact q z
    · rw [List.mem_singleton.mp z, fresh] at e; cases e
  refine ⟨_, _, _, _, pre ++ [.ref r], (N' _ (.head _)).1, (N' _ (.tail _ (.head _))).1, by rw [Array.toList_push, h3], ?_, ?_, ?_, h7, ?_⟩
  · rw [List.map_append]
    have one : ∀ (v : Value) (w : List Wd), (∀ a, v = .ref a → a ≠ l) → RowH h v w → RowA [l, D2] h' v w := by
      intro v w hv x
      obtain ⟨a, its, n, e, h1, h2, r⟩ := x
      refine ⟨⟨a, its, n, e, h1, kS _ _ _ _ rfl (fun z => hv a e (List.mem_singleton.mp z)) h2, forall2_mono (fun _ _ => ItemH.butS kS hX) r⟩, fun b hb => ?_⟩
      rw [e] at hb; cases hb
      exact hY _ _ _ h2 (hv a e)
    refine forall2_snoc (one _ _ (fun a q => by cases q; exact h6.symm) ⟨r, rits, k0, rfl, h8, h2, h5⟩) (forall2_mono (fun v w q => one v w (fun a z hl => q.2 a z (by rw [hl]; exact .head _)) q.1) h4)
  · exact .cons ⟨D1, t, .none, rfl, Nat.lt_trans h7 hl1, (N' _ (.tail _ (.tail _ (.head _)))).1, rfl⟩ .nil
  · exact Nat.ne_of_lt hlD
  · exact Nat.lt_trans h7 hlD
theorem LayH.move {h h' : Heap} {l r : Addr} {st : List (List Wl) × List Wl} (b : But [l, r] h h') (e1 : ∀ o, h.get? l = some o → h'.get? l = some o) (e2 : ∀ o, h.get? r = some o → h'.get? r = some o) (x : LayH h l r st) : LayH h' l r st := by
  obtain ⟨its, rits, n, k, pre, h1, h2, h3, h4, h5, h6, h7, h8⟩ := x
  have := LayH.grow (ws' := []) b h1 h2 h3 h4 h5 h6 h7 h8 (e1 _ h1) (e2 _ h2) (more := []) (by simp) .nil
  rw [List.append_nil] at this
  exact this
theorem TreeL.more {X : List Addr} {h : Heap} {r : Addr} {l : Addr} (hr : r ∈ X ∨ h.get? r = none) (hl : l ∈ X) {t : LT} {v : Value} (x : TreeL X h t v) : TreeL [l, r] h t v := x.away (fun a o e hn hm => by
  rcases List.mem_cons.mp hm with z | z
  · exact hn (z ▸ hl)
  · rw [List.mem_singleton] at z
    rcases hr with q | q
    · exact hn (z ▸ q)
    · rw [z, q] at e; cases e)
theorem lay_str {M : Model} {A : Around} {R : Result → Shared → Prop} {s : Shared} {f v c l : Value} {x y : Str} {t : Tok} (e : x = y) (h : codeAny M A (.call f ⟨[v, .str x t, c, l], []⟩) R s) : codeAny M A (.call f ⟨[v, .str y t, c, l], []⟩) R s := e ▸ h
theorem s40 : S [40] = Str.ofString "(" := (str_of_list (by decide)).symm
theorem s0 : S [] = Str.ofString "" := (str_of_list (by decide)).symm
theorem after_call {g h h' : Heap} {L l r r1 : Addr} {m : Str → Option Value} (F : Fr g L h m) (b : But [l, r] h h') (gl : g.get? l = none) (glL : l ≠ L) (gr : g.get? r = none) (grL : r ≠ L) (q1 : r1 = r ∨ h.get? r1 = none) : Fr g L h' m ∧ g.get? r1 = none ∧ r1 ≠ L := by
  refine ⟨but_fr b F (fun x hx => ?_), ?_, ?_⟩
  · rcases List.mem_cons.mp hx with rfl | hx
    · exact ⟨gl, glL⟩
    · rw [List.mem_singleton.mp hx]; exact ⟨gr, grL⟩
  · rcases q1 with rfl | q1
    · exact gr
    · cases q : g.get? r1 with
      | none => rfl
      | some o => have := F.keep _ _ q; rw [q1] at this; cases this
  · rcases q1 with rfl | q1
    · exact grL
    · intro q
      obtain ⟨o, _, _, e, _⟩ := F.ns
      rw [← q, q1] at e; cases e

end
section
theorem calm_F9 : True := by
  w_top off
  trivial
theorem lay_node {x y z : LT} (ihx : LayOk x) (ihy : LayOk y) (ihz : LayOk z) : LayOk (.node x y z) := by
  unfold LayOk
  k_fill
  intro w dp un gd A₀ base h₀ outer env L m s p loose mean mg mb X B F T0 hf hke hroom hun v fr tf tc c l r st R hL hl0 hlL hr0 hrL hT hfi hfr hc hst k
  obtain ⟨gs, ws⟩ := st
  have hL' := hL
  obtain ⟨its, rits, n', k', pre, h1, h2, h3, h4, h5, h6, h7, h8⟩ := hL'
  obtain ⟨a, va, vb, vc, n, rfl, ha, hg, hx, hy, hz⟩ := hT
  obtain ⟨fx, fy, fz⟩ := hfi
  have hd1 : x.depth + 1 ≤ (LT.node x y z).depth := by show _ ≤ 1 + max x.depth (max y.depth z.depth); lia
  have hd2 : y.depth + 1 ≤ (LT.node x y z).depth := by show _ ≤ 1 + max x.depth (max y.depth z.depth); lia
  have hd3 : z.depth + 1 ≤ (LT.node x y z).depth := by show _ ≤ 1 + max x.depth (max y.depth z.depth); lia
  have hs1 : (LT.node x y z).size = 1 + x.size + y.size + z.size := rfl
  have hcx := lay_count x fr 0 (gs, ws)
  have hcy := lay_count y [40] 0 (lay x fr 0 (gs, ws))
  have hroom0 : dp < recursionLimit := by lia
  have hN : News h₀ L s.heap [(l, listOf its n'), (r, listOf rits k')] := by
    intro q hq
    rcases List.mem_cons.mp hq with rfl | hq
    · exact ⟨h1, hlL, hl0⟩
    · rw [List.mem_singleton.mp hq]; exact ⟨h2, hrL, hr0⟩
  k_dflt (refine' code_mine (K := hd.heap_39 w.params) ?k1 ?k2 ?k3 ?k4 ?k5 ?kA ?kF ?kK ?k6 ?k7 ?k8 ?k9 ?kB ?_ ?c2 ?c3 ?c4 ?c5; (case kA => exact rfl); (case kF => exact hf); (case kK => exact hke); (case k1 => k_asm); (case k2 => k_asm); (case k3 => k_asm); (case k4 => k_asm); (case k5 => k_asm); (case k6 => k_is); (case k7 => k_is); (case k8 => exact hroom0); (case k9 => first | exact BindsTo.of_eq rfl | exact binds_K (by k_in) rfl (by k_is) rfl rfl rfl); (case c5 => decide); (case kB => exact locs rfl); (case c2 => exact rfl); (case c3 => exact rfl); (case c4 => exact rfl); k_whole; intro g' L' h' kp st F' N' B' X' T'; (try dsimp only); (try k_fold))
  have kg : But [l, r] s.heap g' := fun b o hb q => kp b o hb q
  replace hg := kg _ _ ha hg
  replace hx := hx.stay kg
  replace hy := hy.stay kg
  replace hz := hz.stay kg
  have gl : g'.get? l = none := (N' _ (.head _)).2.2
  have glL : l ≠ L' := (N' _ (.head _)).2.1
  have gr : g'.get? r = none := (N' _ (.tail _ (.head _))).2.2
  have grL : r ≠ L' := (N' _ (.tail _ (.head _))).2.1
  k_steps
  (with_reducible rename Fr g' _ _ _ => kF1)
  (with_reducible rename News g' _ _ _ => kN1)
  have hL1 := LayH.move (fun b o hb e => kF1.keep _ _ (kg b o hb e)) (fun o e => by rw [h1] at e; cases e; exact (kN1 _ (.head _)).1) (fun o e => by rw [h2] at e; cases e; exact (kN1 _ (.tail _ (.head _))).1) hL
  refine wpAny_call (ihx w (dp + 1) _ gd _ _ g' _ _ _ _ _ _ _ _ _ _ X' B' kF1 T' rfl rfl (by lia) (by show un + 3 + 10 * x.depth + 100 < _; lia) _ fr _ _ 0 l r (gs, ws) _ hL1 gl glL gr grL (hx.stay fun b o _ q => kF1.keep b o q) fx hfr (by lia) (by dsimp only at hst hcx ⊢; lia) ?_)
  intro ha1 ta1 r1 b1 L1 q1
  obtain ⟨F1, gr1, gr1L⟩ := after_call kF1 b1 gl glL gr grL q1
  have N1 : News g' L' ha1 [] := News.nil
  clear kF1 kN1
  dsimp only at F1 L1 ⊢
  k_steps
  (with_reducible rename Fr g' _ _ _ => kF2)
  refine wpAny_call (lay_str s40 (ihy w (dp + 1) _ gd _ _ g' _ _ _ _ _ _ _ _ _ _ X' B' kF2 T' rfl rfl (by lia) (by show un + 3 + 10 * y.depth + 100 < _; lia) _ [40] _ _ 0 l r1 _ _ L1 gl glL gr1 gr1L ((hy.more (.inr gr1) (.head _)).stay fun b o _ q => kF2.keep b o q) fy (by decide) (by lia) (by dsimp only at hst hcx ⊢; lia) ?_))
  intro ha2 ta2 r2 b2 L2 q2
  obtain ⟨F2, gr2, gr2L⟩ := after_call kF2 b2 gl glL gr1 gr1L q2
  clear kF2
  obtain ⟨rest, R1, R2, R3, R4, R5⟩ := carry_all F2 [l]
  have L2' := L2
  obtain ⟨its2, rits2, n2, k2, pre2, i1, i2, i3, i4, i5, i6, i7, i8⟩ := L2'
  have N2 : News g' L' ha2 ((l, listOf its2 n2) :: rest) := by
    intro q hq
    rcases List.mem_cons.mp hq with rfl | hq
    · exact ⟨i1, glL, gl⟩
    · exact R1 q hq
  have hrl : ∀ p ∈ rest, p.1 ≠ l := fun p hp q => R2 p hp (List.mem_singleton.mpr q)
  have hiz : its2.size ≤ 100000 := by
    have e1 := congrArg List.length i3
    have e2 := i4.len
    rw [List.length_append, List.length_singleton, Array.length_toList] at e1
    rw [List.length_map] at e2
    dsimp only at hst hcx
    lia
  dsimp only at F2 N2 ⊢
  have hns2 := F2.ns
  k_steps
  (with_reducible rename Fr g' _ _ _ => kF3)
  (with_reducible rename News g' _ _ _ => kN3)
  (with_reducible rename _ < _ ∧ _ < _ ∧ _ => kl2)
  (with_reducible rename _ < _ ∧ AllLt _ _ => kl1)
  have L3 := lay_new hns2 L2 i1 R4 kF3 (fun q hq => kN3 q (by
    rcases List.mem_cons.mp hq with rfl | hq
    · exact .tail _ (.tail _ (.head _))
    rcases List.mem_cons.mp hq with rfl | hq
    · exact .head _
    rcases List.mem_cons.mp hq with rfl | hq
    · exact .tail _ (.head _)
    · exact .tail _ (.tail _ (.tail _ hq)))) (allLt_all kl2.2.2) kl2.2.1 kl1.1
  have gr3 := (kN3 _ (.head _)).2.2
  have gr3L := (kN3 _ (.head _)).2.1
  dsimp only at gr3 gr3L
  have ex : ((lay y [40] 0 (lay x fr 0 (gs, ws))).1 ++ [(lay y [40] 0 (lay x fr 0 (gs, ws))).2]).length + [lineW].length + 4 * z.size ≤ 50000 := by
    rw [List.length_append]
    show _ + 1 + 1 + _ ≤ _
    dsimp only at hst hcx
    lia
  refine wpAny_call (lay_str s0 (ihz w (dp + 1) _ gd _ _ g' _ _ _ _ _ _ _ _ _ _ X' B' kF3 T' rfl rfl (by lia) (by show un + 3 + 10 * z.depth + 100 < _; lia) _ [] _ _ (c + 1) l _ _ _ L3 gl glL gr3 gr3L ((hz.more (.inr gr3) (.head _)).stay fun b o _ q => kF3.keep b o q) fz (by decide) (by lia) ex ?_))
  intro ha4 ta4 r4 b4 L4 q4
  obtain ⟨F4, gr4, gr4L⟩ := after_call kF3 b4 gl glL gr3 gr3L q4
  have N4 : News g' L' ha4 [] := News.nil
  clear kF3 kN3
  dsimp only at F4 L4 ⊢
  k_steps
  (try dsimp only)
  have hl4 : l ≠ r4 := by obtain ⟨_, _, _, _, _, _, _, _, _, _, j6, _⟩ := L4; exact j6
  refine k ha4 _ r4 (fun b o hb e => F4.keep _ _ (kg b o hb e)) L4 ?_
  by_cases q : r4 = r
  · exact .inl q
  · refine .inr ?_
    cases e : s.heap.get? r4 with
    | none => rfl
    | some o =>
      have := kg r4 o (fun hm => by
        rcases List.mem_cons.mp hm with z | z
        · exact hl4 z.symm
        · exact q (List.mem_singleton.mp z)) e
      rw [gr4] at this; cases this
theorem lay_go : ∀ t : LT, LayOk t := by
  intro t
  induction t with
  | leaf n v => exact lay_leaf n v
  | node x y z hx hy hz => exact lay_node hx hy hz

end
section
section
variable {prog : Program} {w : World} {A : Around} {E : Value → Shared → Prop} {s : Shared} {env : Env} {h₀ : Heap} {x : Str} {body : List Stmt} {Q : Flow → Shared → Prop}
/-- a for over a range, by a word of its state at each turn -/
theorem iter_rangeJ {r : Addr} {b₀ : Int} {t₀ u₀ v₀ : Tok} {n : Nat} {m₀ : Str → Option Value} {news : List (Addr × Obj)} (J : Nat → (Str → Option Value) → List (Addr × Obj) → Prop)
    (hh : A.handled = none) (hr : IsRange s.heap r 0 b₀ 1 t₀ u₀ v₀) (hb : b₀ = (n : Int)) (hn9 : n ≤ 3) (F : Fr h₀ env.locals s.heap m₀) (N : News h₀ env.locals s.heap news) (hR : J 0 m₀ news)
    (turn : ∀ i t m₁ nx h tk own, i < n → nx.map (·.1) = news.map (·.1) → OwnOff own (news.map (·.1)) → J i m₁ nx → Fr h₀ env.locals h (fun y => if y = x then some (.int (i : Int) t) else m₁ y) → News h₀ env.locals h (nx ++ own) →
      wpAny (model prog w) A (execs body env) (InvPostN h₀ env.locals (J (i + 1)) own (news.map (·.1)) { s with heap := h, toks := tk } Q) E { s with heap := h, toks := tk })
    (done : ∀ m₁ nx h tk, J n m₁ nx → Fr h₀ env.locals h m₁ → News h₀ env.locals h nx → Q .next { s with heap := h, toks := tk }) :
    wpAny (model prog w) A (pyIter (.ref r)) (fun it s₂ => LoopAtV prog w A h₀ env x body Q E it s₂) E s := by
  subst hb
  have hsmall : Builtin.Range.small 0 (n : Int) 1 = true := by
    have : n = 0 ∨ n = 1 ∨ n = 2 ∨ n = 3 := by lia
    rcases this with rfl | rfl | rfl | rfl <;> decide
  have hn : Builtin.Range.rangeSize 0 (n : Int) 1 = (n : Int) := by rw [rangeSize_one]; split <;> lia
  refine wpAny_pyIter_range hr hsmall ?_
  have W : Walks prog w A s.heap.objs.size [s.heap.objs.size] [s.heap.objs.size] n (fun i v => ∃ t, v = .int (0 + (i : Int) * 1) t)
      (fun i h => IsRangeIter h s.heap.objs.size (0 + (i : Nat) * 1) ((n : Int) - (i : Nat)) 1) := Walks.range hh _ 0 1 n
  refine loop_invN J W ?_ ?_ ?_ ?_ (by show IsRangeIter _ _ _ _ _; rw [hn]; simpa using Heap.get?_push_size _ rfl) (F.push _) (fun p hp => ⟨Heap.get?_push_of_some _ (N p hp).1, (N p hp).2⟩) hR ?_ ?_
  · intro hm
    exact absurd F.ns.lt ((List.mem_singleton.mp hm) ▸ Nat.lt_irrefl _)
  · intro b hb
    rw [List.mem_singleton.mp hb]
    exact next_is_new F
  · intro p hp hI
    exact absurd (Heap.lt_size (N p hp).1) ((List.mem_singleton.mp hI) ▸ Nat.lt_irrefl _)
  · intro p hp hI
    exact absurd (Heap.lt_size (N p hp).1) ((List.mem_singleton.mp hI) ▸ Nat.lt_irrefl _)
  · rintro i v m₁ nx h tk own hi ⟨t, rfl⟩ ha ho hJ F' N'
    have e : (0 + (i : Int) * 1) = (i : Int) := by lia
    rw [e] at F'
    exact turn i t m₁ nx h tk own hi ha ho hJ F' N'
  · exact done
end
section
variable {prog : Program} {w : World} {A : Around} {E : Value → Shared → Prop} {s : Shared} {g : Heap} {L : Addr} {Q : Value → Shared → Prop}
theorem pow_y {k : Nat} {t u : Tok} (hk : k < 4) (h : ∀ p : Nat, ∀ t' tk, 0 < p → p ≤ 1000 → Q (.int (p : Int) t') { s with toks := tk }) : wpAny (model prog w) A (binaryOp .Pow (.int 10 t) (.int (k : Int) u)) Q E s := by
  refine pow_int_small (by lia) (by lia) (by decide) ?_
  have e : ((10 : Int) ^ ((k : Int)).toNat) = ((10 ^ k : Nat) : Int) := by simp
  rw [e]
  refine h _ _ _ (Nat.pos_of_ne_zero (by simp)) ?_
  have : 10 ^ k ≤ 10 ^ 3 := Nat.pow_le_pow_right (by decide) (by lia)
  lia
theorem div_y {a : Int} {p : Nat} {t u : Tok} (ha : 0 ≤ a) (hp0 : 0 < p) (hp : p ≤ 1000) (h : ∀ q t' tk, 0 ≤ q → q ≤ a → Q (.int q t') { s with toks := tk }) : wpAny (model prog w) A (binaryOp .FloorDiv (.int a t) (.int (p : Int) u)) Q E s := by
  refine floordiv_int (by lia) ?_ (Or.inl (PyProof.noPylong_small (by lia)))
  refine h _ _ _ ?_ ?_
  · exact Int.fdiv_nonneg ha (by lia)
  · rw [Int.fdiv_eq_ediv_of_nonneg _ (by lia)]
    exact Int.ediv_le_self _ ha
noncomputable abbrev txt10 : Str := Str.ofString "a-\"\\ ,;=)\n"
theorem item10 (i : Int) (h0 : 0 ≤ i) (h1 : i < 10) : ∃ c ∈ signs10, PySem.Txt.item txt10 i = S [c] := by
  have : i = 0 ∨ i = 1 ∨ i = 2 ∨ i = 3 ∨ i = 4 ∨ i = 5 ∨ i = 6 ∨ i = 7 ∨ i = 8 ∨ i = 9 := by lia
  rcases this with rfl | rfl | rfl | rfl | rfl | rfl | rfl | rfl | rfl | rfl
  · exact ⟨97, by decide, by decide⟩
  · exact ⟨45, by decide, by decide⟩
  · exact ⟨34, by decide, by decide⟩
  · exact ⟨92, by decide, by decide⟩
  · exact ⟨32, by decide, by decide⟩
  · exact ⟨44, by decide, by decide⟩
  · exact ⟨59, by decide, by decide⟩
  · exact ⟨61, by decide, by decide⟩
  · exact ⟨41, by decide, by decide⟩
  · exact ⟨10, by decide, by decide⟩
theorem sign_y {value slice : PySem.Expr} {i : Int} {t u : Tok} (h0 : 0 ≤ i) (h1 : i < 10)
    (hs : subscripted slice false (.str txt10 t) (.int i u) = operate [.str txt10 t, .int i u] (getItem (.str txt10 t) (.int i u)))
    (ht : ∀ r, letTemporaryGo value (.str txt10 t) r = pure ()) (h : ∀ c t' tk, c ∈ signs10 → Q (.str (S [c]) t') { s with toks := tk }) :
    wpAny (model prog w) A (subscriptTail value slice (.str txt10 t) (.int i u)) Q E s := by
  refine KXi.item (n := 10) (by decide) (by lia) (by lia) (by lia) ?_ hs ht
  intro _
  obtain ⟨c, hc, e⟩ := item10 i h0 h1
  rw [e]
  exact h c _ _ hc
noncomputable abbrev names4 : List (List Nat) := [[107], [81, 49], [108, 105, 110, 101], [45, 98]]
theorem pick_y {value slice : PySem.Expr} {l : Addr} {i : Int} {u t1 t2 t3 t4 : Tok} {n : Nat} {news : List (Addr × Obj)} (N : News g L s.heap news) (hm : (l, listOf #[.str (Str.ofString "k") t1, .str (Str.ofString "Q1") t2, .str (Str.ofString "line") t3, .str (Str.ofString "-b") t4] n) ∈ news) (h0 : 0 ≤ i) (h1 : i < 4)
    (hs : subscripted slice false (.ref l) (.int i u) = operate [.ref l, .int i u] (getItem (.ref l) (.int i u)))
    (h : ∀ nm t', nm ∈ names4 → Q (.str (S nm) t') s) :
    wpAny (model prog w) A (subscriptTail value slice (.ref l) (.int i u)) Q E s := by
  have hl : s.heap.IsList l #[.str (Str.ofString "k") t1, .str (Str.ofString "Q1") t2, .str (Str.ofString "line") t3, .str (Str.ofString "-b") t4] := ⟨_, (N _ hm).1, rfl, _, rfl⟩
  have e1 : Str.ofString "k" = S [107] := str_of_list (by decide)
  have e2 : Str.ofString "Q1" = S [81, 49] := str_of_list (by decide)
  have e3 : Str.ofString "line" = S [108, 105, 110, 101] := str_of_list (by decide)
  have e4 : Str.ofString "-b" = S [45, 98] := str_of_list (by decide)
  rw [e1, e2, e3, e4] at hl
  have : i = 0 ∨ i = 1 ∨ i = 2 ∨ i = 3 := by lia
  have pick : ∀ {i : Int} {vs : Array Value} {v : Value}, s.heap.IsList l vs → 0 ≤ i → i < 2 ^ 63 → vs[i.toNat]? = some v → Q v s → subscripted slice false (.ref l) (.int i u) = operate [.ref l, .int i u] (getItem (.ref l) (.int i u)) → wpAny (model prog w) A (subscriptTail value slice (.ref l) (.int i u)) Q E s := by
    intro i vs v hl a b c d hs
    exact tail_any hl.typeIs slot_list_getitem.lookup (wpAny_getItem_list hl a b c d) hs
  rcases this with rfl | rfl | rfl | rfl
  · exact pick hl (by decide) (by decide) rfl (h [107] _ (by decide)) hs
  · exact pick hl (by decide) (by decide) rfl (h [81, 49] _ (by decide)) hs
  · exact pick hl (by decide) (by decide) rfl (h [108, 105, 110, 101] _ (by decide)) hs
  · exact pick hl (by decide) (by decide) rfl (h [45, 98] _ (by decide)) hs
end

end
section
/-- a leaf that the law makes -/
noncomputable def LeafGood (g : Thing) (n : List Nat) (val : Option (List Nat)) : Prop := g.shown = S (leafText n val) ∧ g.small ∧ n ≠ [] ∧ n.length ≤ 100 ∧ (∀ x ∈ n, tokc x = true ∧ x < 128) ∧ ∀ w, val = some w → w.length ≤ 10 ∧ ∀ c ∈ w, c ∈ signs10
noncomputable def LeafH (h : Heap) (v : Value) : Prop := ∃ g n val, LeafGood g n val ∧ TreeH h (.leaf g (S n) (val.map S)) v
noncomputable def codesOf (x : Str) : List Nat := x.cps.toList
theorem S_codes (x : Str) : S (codesOf x) = x := (str_of_list rfl).symm
theorem int_good (i : Int) (h : i.natAbs < 10 ^ 10) : LeafGood (.int i) (codesOf (Str.ofString (toString i))) none := by
  have hlen : (Str.ofString (toString i)).cps.size ≤ 11 := by
    have h1 := int_text_length_le10 (a := i) (k := 10) (by decide) h
    rw [PySem.Str.ofString_eq_toList]
    show ((toString i).toList.map Char.toNat).toArray.size ≤ 11
    rw [List.size_toArray, List.length_map, String.length_toList]
    exact h1
  refine ⟨?_, ?_, ?_, ?_, ?_, fun w q => nomatch q⟩
  · show Str.ofString (toString i) = S (codesOf _)
    rw [S_codes]
  · show i.natAbs < 2 ^ 1900
    exact Nat.lt_trans h (by decide)
  · intro q
    have : (codesOf (Str.ofString (toString i))).length = 0 := by rw [q]; rfl
    unfold codesOf at this
    rw [PySem.Str.ofString_eq_toList] at this
    simp only [List.length_map] at this
    have h2 : (toString i).toList = [] := List.eq_nil_of_length_eq_zero this
    rw [Int.toString_eq_repr, Int.repr_eq_if] at h2
    split at h2
    · rw [Nat.toList_repr] at h2
      have := Nat.length_toDigits_pos (b := 10) (n := i.toNat)
      rw [h2] at this
      exact absurd this (by decide)
    · rw [String.toList_append] at h2
      have := congrArg List.length h2
      simp at this
  · unfold codesOf
    rw [Array.length_toList]; lia
  · intro x hx
    unfold codesOf at hx
    rw [PySem.Str.ofString_eq_toList] at hx
    obtain ⟨ch, h1, rfl⟩ := List.mem_map.mp hx
    rcases int_sign i ch h1 with q | q
    · obtain ⟨a, b⟩ := digit_range q
      have key : ∀ c, c < 58 → 48 ≤ c → tokc c = true := by decide
      exact ⟨key _ (by lia) a, by lia⟩
    · subst q; decide
theorem none_good : LeafGood .none [78, 111, 110, 101] none := by
  refine ⟨?_, trivial, by decide, by decide, by decide, fun w q => nomatch q⟩
  exact str_of_list (by decide)
theorem jtok_ten : ∀ c ∈ signs10, jtok c = (c == 97 || c == 45) := by decide +kernel
theorem jOk_ten {v : List Nat} (h : ∀ c ∈ v, c ∈ signs10) : jOk v = bareOk v := by
  unfold jOk bareOk
  congr 1
  induction v with
  | nil => rfl
  | cons a r ih => rw [List.all_cons, List.all_cons, jtok_ten a (h a (.head _)), ih fun c hc => h c (.tail _ hc)]
theorem attr_leaf {n : List Nat} {val : Option (List Nat)} (h : ∀ w, val = some w → ∀ c ∈ w, c ∈ signs10) : attrText (n, val) = leafText n val := by
  cases val with
  | none => rfl
  | some v =>
    show (if jOk v then _ else _) = (if bareOk v then _ else _)
    rw [jOk_ten (h v rfl)]
theorem word_good {n : List Nat} {val : Option (List Nat)} (hn : n ∈ names4) (h : ∀ w, val = some w → w.length ≤ 10 ∧ ∀ c ∈ w, c ∈ signs10) : LeafGood (.word (S (attrText (n, val)))) n val := by
  refine ⟨?_, trivial, ?_, ?_, ?_, h⟩
  · show S (attrText (n, val)) = _
    rw [attr_leaf fun w q => (h w q).2]
  · intro q; subst q; exact absurd hn (by decide)
  · have : ∀ n ∈ names4, n.length ≤ 100 := by decide
    exact this n hn
  · have : ∀ n ∈ names4, ∀ x ∈ n, tokc x = true ∧ x < 128 := by decide
    exact this n hn
theorem name_good {n : List Nat} {val : Option (List Nat)} (hn : n ∈ names4) (h : ∀ w, val = some w → w.length ≤ 10 ∧ ∀ c ∈ w, c ∈ signs10) : JoinText [[toW (n, val)]] (S (attrText (n, val))) := by
  obtain ⟨_, _, h1, h2, h3, _⟩ := word_good hn h
  have hl : (allText [[(n, val)]]).length ≤ 1000 := by
    show (attrText (n, val)).length ≤ 1000
    cases val with
    | none => show n.length ≤ 1000; lia
    | some v =>
      have hv := (h v rfl).1
      have he := esc_len v
      show (if jOk v then n ++ 61 :: v else n ++ 61 :: 34 :: (esc v ++ [34])).length ≤ 1000
      split
      · simp only [List.length_append, List.length_cons]; lia
      · simp only [List.length_append, List.length_cons, List.length_nil]; lia
  exact join_text [[(n, val)]] (fun g hg => by
    rw [List.mem_singleton.mp hg]
    refine ⟨by simp, fun w hw => ?_⟩
    rw [List.mem_singleton.mp hw]
    exact ⟨⟨h1, fun x hx => (h3 x hx).1, fun v q => by have := (h v q).1; lia⟩, by show n.length ≤ _; lia⟩) (by lia) (by show 1 ≤ _; lia)
theorem TabH.move {h h' : Heap} {line col : Nat} {qual : Str} {tb : Array Value} (k : ∀ b o vs, o.data = .fields vs → h.get? b = some o → h'.get? b = some o) (x : TabH h line col qual tb) : TabH h' line col qual tb := by
  rcases x with x | ⟨c', oc, vs, t, e, h1, h2, h3, h4⟩
  · exact .inl x
  · exact .inr ⟨c', oc, vs, t, e, h1, k _ _ _ h3 h2, h3, h4⟩
theorem frame_not2 {h : Heap} {L a : Addr} {m : Str → Option Value} {vs : Array Value} {o : Obj} (N : h.Ns L m) (e : h.get? a = some o) (d : o.data = .fields vs) : a ≠ L := by
  intro q
  obtain ⟨o', es, ep, e1, e2, _⟩ := N
  rw [← q, e] at e1
  cases e1
  rw [d] at e2; cases e2
theorem fr_if {g h : Heap} {L : Addr} {M : Str → Option Value} {y : Str} {b : Value} (F : Fr g L h M) (e : M y = some b) : Fr g L h (fun n => if n = y then some b else M n) := by
  have : M = (fun n => if n = y then some b else M n) := by
    funext n
    by_cases q : n = y
    · rw [if_pos q, q, e]
    · rw [if_neg q]
  exact this ▸ F
theorem leaf_at {h : Heap} {D : Addr} {g : Thing} {n : List Nat} {val : Option (List Nat)} {gv vv : Value} {x : Str} {t : Tok} (good : LeafGood g n val) (hD : 82 < D) (e : h.get? D = some (tupOf [gv, .str x t, vv])) (hx : x = S n) (h1 : ThingIs g gv) (h2 : ValIs (val.map S) vv) : LeafH h (.ref D) := by
  subst hx
  refine ⟨g, n, val, good, D, gv, t, vv, rfl, fun hm => ?_, e, h1, h2⟩
  have hD' : @LT.lt Nat _ 82 D := hD
  rcases List.mem_cons.mp hm with q | q
  · rw [q] at hD'; exact absurd hD' (by decide)
  · rw [List.mem_singleton.mp q] at hD'; exact absurd hD' (by decide)
theorem fmod_both (x : Int) : 0 ≤ x.fmod 50000 ∧ x.fmod 50000 < 50000 ∧ 0 ≤ (x.fmod 50000).fdiv 4 ∧ (x.fmod 50000).fdiv 4 < 12500 := by
  have h1 := fmod_lo x (n := 50000) (by decide)
  have h2 := fmod_hi x (n := 50000) (by decide)
  rw [Int.fdiv_eq_ediv_of_nonneg _ (by decide)]
  lia
theorem newTab_back2 {s h h2 : Heap} {line col : Nat} {qual : Str} {t₀ tb : Array Value} (kp : ∀ b o, 82 < b → s.get? b = some o → h.get? b = some o) (hT : TabH h2 line col qual tb) (x : NewTab h line col t₀ tb) : NewTab s line col t₀ tb := by
  rcases x with x | ⟨c', e, n⟩
  · exact .inl x
  · refine .inr ⟨c', e, ?_⟩
    have hc : 82 < c' := by
      rcases hT with rfl | ⟨c2, oc, vs, t, e2, h1, _⟩
      · cases e
      · rw [e] at e2
        injection e2 with e2
        injection e2 with _ e2
        injection e2 with _ e2
        injection e2 with e2 _
        injection e2 with e2
        rw [e2]; exact h1
    cases q : s.get? c' with
    | none => rfl
    | some o => rw [kp c' o hc q] at n; cases n
theorem fresh_back {s g : Heap} {D : Addr} (kp : ∀ b o, 82 < b → s.get? b = some o → g.get? b = some o) (hD : 82 < D) (n : g.get? D = none) : ∀ a, Value.ref D = .ref a → s.get? a = none ∧ 82 < a := by
  intro a e
  cases e
  refine ⟨?_, hD⟩
  cases q : s.get? D with
  | none => rfl
  | some o => rw [kp D o hD q] at n; cases n

end
section
theorem calm_G1 : True := by
  w_top off
  trivial
theorem adds_y {prog : Program} {w : World} {A : Around} {E : Value → Shared → Prop} {s : Shared} {a b : List Nat} {t u : Tok} {Q : Value → Shared → Prop} (hsz : a.length + b.length ≤ 100000) (h : ∀ t' tk, Q (.str (S (a ++ b)) t') { s with toks := tk }) : wpAny (model prog w) A (binaryOp .Add (.str (S a) t) (.str (S b) u)) Q E s :=
  add_y (S_app _ _) (by rw [S_size, List.length_append]; exact hsz) h
local macro_rules | `(tactic| walk_at "exec For Name Call cons nil") => `(tactic| apply halt)
local macro_rules | `(tactic| walk_at "pyIter ref") => `(tactic| apply halt)
local macro_rules | `(tactic| walk_at "call ref") => `(tactic| apply halt)
local macro_rules | `(tactic| walk_at "subscriptTail") => `(tactic| (k_here; k_dflt ((with_reducible apply pick_y); k_asm; k_mem; kxi_fact; kxi_fact; with_unfolding_all rfl); intros))
local macro_rules | `(tactic| walk_at "subscriptTail") => `(tactic| (k_here; k_dflt ((with_reducible apply sign_y); kxi_fact; kxi_fact; with_unfolding_all rfl; kmk_pure); intros))
local macro_rules | `(tactic| walk_at "binaryOp Pow int int") => `(tactic| (k_here; k_dflt ((with_reducible apply pow_y); omega); intros))
local macro_rules | `(tactic| walk_at "binaryOp FloorDiv int int") => `(tactic| (k_here; k_dflt ((with_reducible apply div_y); (iterate 3 assumption)); intros))
local macro_rules | `(tactic| walk_at "binaryOp Add str str") => `(tactic| (k_here; k_dflt ((with_reducible apply adds_y); show _ + 1 ≤ _; omega); intros))
theorem leaf_go : ∀ (w : World) (dp un : Nat) (gd : Option (List Code)) (A₀ : Around) (base h₀ : Heap) (outer : List Env) (env : Env) (L : Addr) (m : Str → Option Value) (s : Shared) (p : Program) (loose : List Str) (mean : ExcName → Option Value) (mg mb : Str → Option Value),
    (hd.heap_39 w.params).In h₀ → Below A₀ base outer h₀ → Fr h₀ L s.heap m → Top p loose mean mg mb h₀ → env.frame = some L → env.scope.kind = .function → CodeHd h₀ 86 82 → dp + 10 < recursionLimit → un + 100 < cLine →
    ∀ (x : Int) (tx : Tok) (t65 t82 : Array Value) (R : Result → Shared → Prop), 0 ≤ x → x < 1000000 → News h₀ L s.heap [(82, tabObj t82), (65, tabObj t65)] → TabH s.heap 57 50 qualJ t82 →
    (∀ h' t' v tb, But [82] s.heap h' → h'.get? 82 = some (tabObj tb) → TabH h' 57 50 qualJ tb → NewTab s.heap 57 50 t82 tb → LeafH h' v → (∀ a, v = .ref a → s.heap.get? a = none ∧ 82 < a) → R (.ok (.ret v)) { s with heap := h', toks := t' }) →
    codeAny (model PySem.Challenge.rw_kl0472_01.row.prog w) ⟨none, dp, some (env :: outer), gd, un⟩ (.call (.ref 135) ⟨[.int x tx], []⟩) R s := by
  k_fill
  intro w dp un gd A₀ base h₀ outer env L m s p loose mean mg mb X B F T0 hf hke hcd hroom hun x tx t65 t82 R hx0 hx1 N htab k
  have hroom0 : dp < recursionLimit := by omega
  k_dflt (refine' code_mine (K := hd.heap_39 w.params) ?k1 ?k2 ?k3 ?k4 ?k5 ?kA ?kF ?kK ?k6 ?k7 ?k8 ?k9 ?kB ?_ ?c2 ?c3 ?c4 ?c5; (case kA => exact rfl); (case kF => exact hf); (case kK => exact hke); (case k1 => k_asm); (case k2 => k_asm); (case k3 => k_asm); (case k4 => k_asm); (case k5 => k_asm); (case k6 => k_is); (case k7 => k_is); (case k8 => exact hroom0); (case k9 => first | exact BindsTo.of_eq rfl | exact binds_K (by k_in) rfl (by k_is) rfl rfl rfl); (case c5 => decide); (case kB => exact locs rfl); (case c2 => exact rfl); (case c3 => exact rfl); (case c4 => exact rfl); k_whole; intro g' L' h' kp st F' N' B' X' T'; (try dsimp only); (try k_fold))
  have kC : CodeHd g' 86 82 := hcd.keeps st
  have kT : TabN g' 57 50 qualJ [] t82 := TabN.ofH htab kp (by intro p hp; rcases List.mem_cons.mp hp with rfl | hp; exact Nat.le_refl _; rcases List.mem_cons.mp hp with rfl | hp; exact (by decide : 65 ≤ 82); cases hp)
  have kp82 := kp_82 kp
  have big : @LT.lt Nat _ 159 g'.objs.size := top_big X'
  k_steps
  · (with_reducible rename Fr g' _ _ _ => kF)
    (with_reducible rename News g' _ _ _ => kN)
    (with_reducible rename _ < _ ∧ _ => kl)
    exact k _ _ _ t82 (but_end82 N kp kF kN (by k_mem)) (news_at kN (by k_mem)) (kT.heap kF kN (by intro _ q; cases q)) (.inl rfl) (leaf_at none_good kl.1 (news_at kN (.head _)) (str_of_list (by decide)) rfl rfl) (fresh_back kp82 kl.1 (kN _ (.head _)).2.2)
  · (with_reducible rename Fr g' _ _ _ => kF)
    (with_reducible rename News g' _ _ _ => kN)
    (with_reducible rename _ < _ ∧ _ => kl)
    have hf := fmod_both x
    exact k _ _ _ t82 (but_end82 N kp kF kN (by k_mem)) (news_at kN (by k_mem)) (kT.heap kF kN (by intro _ q; cases q)) (.inl rfl) (leaf_at (int_good ((x.fmod 50000).fdiv 4 - 6000) (by omega)) kl.1 (news_at kN (.head _)) (S_codes _).symm ⟨_, rfl⟩ rfl) (fresh_back kp82 kl.1 (kN _ (.head _)).2.2)
  · refine halted ?_
    refine For_invV g' (x := Str.ofString "turn") rfl rfl ?_
    k_steps
    refine halted ?_
    (with_reducible rename Fr g' _ _ _ => kF)
    (with_reducible rename News g' _ _ _ => kN)
    (with_reducible rename _ ∈ names4 => hnm)
    have n65 : News g' L' _ [(82, tabObj t82), (65, tabObj t65)] := pick_two kN (by k_mem) (by k_mem)
    have hf := fmod_both x
    have hm4 : 0 ≤ (((x.fmod 50000).fdiv 4).fdiv 4).fmod 4 ∧ (((x.fmod 50000).fdiv 4).fdiv 4).fmod 4 < 4 := ⟨fmod_lo _ (by decide), fmod_hi _ (by decide)⟩
    have hq16 : 0 ≤ ((x.fmod 50000).fdiv 4).fdiv 16 := Int.fdiv_nonneg hf.2.2.1 (by decide)
    refine iter_rangeJ (n := ((((x.fmod 50000).fdiv 4).fdiv 4).fmod 4).toNat) (fun i m nx => nx = [(82, tabObj t82), (65, tabObj t65)] ∧ (∃ vl t, m "value" = some (.str (S vl) t) ∧ vl.length = i ∧ ∀ c ∈ vl, c ∈ signs10) ∧ (∃ tr, m "rest" = some (.int ((x.fmod 50000).fdiv 4) tr)) ∧ ∃ tn, m "name" = some (.str (S _) tn)) rfl (by assumption) (by omega) (by omega) kF n65 ⟨rfl, ⟨[], _, rfl, rfl, fun _ q => nomatch q⟩, ⟨_, rfl⟩, ⟨_, rfl⟩⟩ ?_ ?_
    · clear k
      rintro i ti m1 nx h1 tk1 own hi - ho ⟨rfl, ⟨vl, tv, e1, e2, e3⟩, ⟨tr, e4⟩, ⟨tn, e5⟩⟩ F1 N1
      have F1 := fr_if (fr_if (fr_if F1 (y := Str.ofString "name") (by rw [if_neg (by decide)]; exact e5)) (y := Str.ofString "rest") (by rw [if_neg (by decide), if_neg (by decide)]; exact e4)) (y := Str.ofString "value") (by rw [if_neg (by decide), if_neg (by decide), if_neg (by decide)]; exact e1)
      clear kF kN n65
      simp only [List.cons_append, List.nil_append] at N1
      dsimp only
      k_steps
      (with_reducible rename Fr g' _ _ _ => kF)
      (with_reducible rename News g' _ _ _ => kN)
      (with_reducible rename _ ∈ signs10 => hsg)
      refine ⟨_, _, _, _, [(82, tabObj t82), (65, tabObj t65)], rfl, kF, kN, ?_, ?_, rfl, rfl, ⟨vl ++ [_], _, rfl, by rw [List.length_append, e2]; rfl, ?_⟩, ⟨_, rfl⟩, ⟨_, rfl⟩⟩
      · intro q hq
        rcases List.mem_cons.mp hq with rfl | hq
        · k_mem
        rcases List.mem_cons.mp hq with rfl | hq
        · k_mem
        · cases hq
      · intro q hq
        exact .tail _ (.tail _ hq)
      · intro c hc
        rcases List.mem_append.mp hc with hc | hc
        · exact e3 c hc
        · rw [List.mem_singleton.mp hc]; exact hsg
    · rintro m1 nx h1 tk1 ⟨rfl, ⟨vl, tv, e1, e2, e3⟩, ⟨tr, e4⟩, ⟨tn, e5⟩⟩ F1 N1
      have F1 := fr_if (fr_if F1 (y := Str.ofString "name") e5) (y := Str.ofString "value") (by rw [if_neg (by decide)]; exact e1)
      clear kF kN n65
      dsimp only
      k_steps
      refine halted ?_
      (with_reducible rename Fr g' _ _ _ => kF)
      (with_reducible rename News g' _ _ _ => kN)
      (with_reducible rename _ ∈ names4 => hnm)
      have hT := kT.heap kF kN (by intro _ q; cases q)
      have g82 : g'.get? 82 = none ∧ (82 : Addr) ≠ L' := ⟨(kN (82, tabObj t82) (by k_mem)).2.2, (kN (82, tabObj t82) (by k_mem)).2.1⟩
      have g65 : g'.get? 65 = none ∧ (65 : Addr) ≠ L' := ⟨(kN (65, tabObj t65) (by k_mem)).2.2, (kN (65, tabObj t65) (by k_mem)).2.1⟩
      have n65 : News g' L' _ [(82, tabObj t82), (65, tabObj t65)] := pick_two kN (by k_mem) (by k_mem)
      have hgood : ∀ v, ((some vl) : Option (List Nat)) = some v → v.length ≤ 10 ∧ ∀ c ∈ v, c ∈ signs10 := fun v q => by cases q; exact ⟨by omega, e3⟩
      refine wpAny_call (join_go w (dp + 1) _ gd _ _ g' _ _ _ _ _ _ _ _ _ _ X' B' kF T' rfl rfl kC (by omega) t65 t82 _ _ [[toW (_, (some vl))]] _ n65 ⟨_, _, _, rfl, ltN (by omega), news_at kN (by k_mem), .cons ⟨_, _, _, rfl, ltN (by omega), news_at kN (by k_mem), .cons ⟨_, _, _, rfl, ltN (by omega), news_at kN (by k_mem), ⟨_, rfl⟩⟩ .nil⟩ .nil⟩ hT (name_good hnm hgood) ?_)
      intro h2 t2 u2 tb2 b2 e2 tab2 nt2
      have F2 := but_fr b2 kF (fun x hx => by rw [List.mem_singleton.mp hx]; exact g82)
      refine carry_k F2 [] ?_
      intro rest R1 R2 R4 R5
      have e65 := b2 65 (tabObj t65) (by decide) (news_at kN (by k_mem))
      have r65 : (65, tabObj t65) ∈ rest := (R4 65 _ (fun q => nomatch q) g65.2 e65).elim (fun q => by rw [g65.1] at q; cases q) id
      have nt3 := newTab_back2 (s := s.heap) (fun b o hb e => kF.keep _ _ (kp82 b o hb e)) tab2 nt2
      clear kF kN n65
      have hns2 := F2.ns
      dsimp only at F2 R1 ⊢
      k_steps
      (with_reducible rename Fr g' _ _ _ => kF)
      (with_reducible rename News g' _ _ _ => kN)
      have R6 := R5 _ _ kF fun q hq => kN q (.tail _ hq)
      have r82 : (82, tabObj tb2) ∈ rest := (R4 82 _ (fun q => nomatch q) g82.2 e2).elim (fun q => by rw [g82.1] at q; cases q) id
      (with_reducible rename ∀ p ∈ rest, _ < _ => kAll)
      have a2 := ltN (kAll _ r82)
      refine k _ _ _ tb2 (but_end82 N kp kF kN (.tail _ r65)) (R6 82 _ (fun q => nomatch q) g82.2 e2) (TabH.move (fun b o vs d e => R6 b o (fun q => nomatch q) (frame_not2 hns2 e d) e) tab2) nt3 (leaf_at (word_good hnm hgood) (ltN a2) (news_at kN (.head _)) rfl ⟨_, rfl⟩ ⟨_, rfl⟩) (fresh_back kp82 (ltN a2) (kN _ (.head _)).2.2)
  · refine halted ?_
    (with_reducible rename Fr g' _ _ _ => kF)
    (with_reducible rename News g' _ _ _ => kN)
    (with_reducible rename _ ∈ names4 => hnm)
    have hT := kT.heap kF kN (by intro _ q; cases q)
    have g82 : g'.get? 82 = none ∧ (82 : Addr) ≠ L' := ⟨(kN (82, tabObj t82) (by k_mem)).2.2, (kN (82, tabObj t82) (by k_mem)).2.1⟩
    have g65 : g'.get? 65 = none ∧ (65 : Addr) ≠ L' := ⟨(kN (65, tabObj t65) (by k_mem)).2.2, (kN (65, tabObj t65) (by k_mem)).2.1⟩
    have n65 : News g' L' _ [(82, tabObj t82), (65, tabObj t65)] := pick_two kN (by k_mem) (by k_mem)
    have hgood : ∀ v, (none : Option (List Nat)) = some v → v.length ≤ 10 ∧ ∀ c ∈ v, c ∈ signs10 := fun v q => nomatch q
    refine wpAny_call (join_go w (dp + 1) _ gd _ _ g' _ _ _ _ _ _ _ _ _ _ X' B' kF T' rfl rfl kC (by omega) t65 t82 _ _ [[toW (_, none)]] _ n65 ⟨_, _, _, rfl, ltN (by omega), news_at kN (by k_mem), .cons ⟨_, _, _, rfl, ltN (by omega), news_at kN (by k_mem), .cons ⟨_, _, _, rfl, ltN (by omega), news_at kN (by k_mem), rfl⟩ .nil⟩ .nil⟩ hT (name_good hnm hgood) ?_)
    intro h2 t2 u2 tb2 b2 e2 tab2 nt2
    have F2 := but_fr b2 kF (fun x hx => by rw [List.mem_singleton.mp hx]; exact g82)
    refine carry_k F2 [] ?_
    intro rest R1 R2 R4 R5
    have e65 := b2 65 (tabObj t65) (by decide) (news_at kN (by k_mem))
    have r65 : (65, tabObj t65) ∈ rest := (R4 65 _ (fun q => nomatch q) g65.2 e65).elim (fun q => by rw [g65.1] at q; cases q) id
    have nt3 := newTab_back2 (s := s.heap) (fun b o hb e => kF.keep _ _ (kp82 b o hb e)) tab2 nt2
    clear kF kN n65
    have hns2 := F2.ns
    dsimp only at F2 R1 ⊢
    k_steps
    (with_reducible rename Fr g' _ _ _ => kF)
    (with_reducible rename News g' _ _ _ => kN)
    have R6 := R5 _ _ kF fun q hq => kN q (.tail _ hq)
    have r82 : (82, tabObj tb2) ∈ rest := (R4 82 _ (fun q => nomatch q) g82.2 e2).elim (fun q => by rw [g82.1] at q; cases q) id
    (with_reducible rename ∀ p ∈ rest, _ < _ => kAll)
    have a2 := ltN (kAll _ r82)
    refine k _ _ _ tb2 (but_end82 N kp kF kN (.tail _ r65)) (R6 82 _ (fun q => nomatch q) g82.2 e2) (TabH.move (fun b o vs d e => R6 b o (fun q => nomatch q) (frame_not2 hns2 e d) e) tab2) nt3 (leaf_at (word_good hnm hgood) (ltN a2) (news_at kN (.head _)) rfl ⟨_, rfl⟩ rfl) (fresh_back kp82 (ltN a2) (kN _ (.head _)).2.2)

end
end
section
section
variable {prog : Program} {w : World} {A : Around} {E : Value → Shared → Prop} {s : Shared} {env : Env} {h₀ : Heap} {body : List Stmt} {Q : Flow → Shared → Prop}
/-- for i, x in enumerate(l): by a word of its state at each turn -/
theorem enum_J {x y : Str} {px py pt : Pos} {x1 : Nat} {l : Addr} {lo : Obj} {vs : List Value} {ns : List Int} {n : Nat} {m₀ : Str → Option Value} {news : List (Addr × Obj)} (J : Nat → (Str → Option Value) → List (Addr × Obj) → Prop)
    (hh : A.handled = none) (hx : env.kindOf x = some .local) (hy : env.kindOf y = some .local) (hp : (env.scope.kind == .class || (env.scope.kind == .module && env.locals != env.globals)) = false)
    (F : Fr h₀ env.locals s.heap m₀) (N : News h₀ env.locals s.heap news) (hl : s.heap.get? l = some lo) (hlL : l ≠ env.locals) (hl0 : h₀.get? l = none) (hc : lo.cls = .type "list") (hd : lo.data = .seq vs.toArray n) (hi : IntsAre vs ns) (hJ : J 0 m₀ news)
    (step : ∀ i k t t2 m₁ nx h tk own wr, ns[i]? = some k → J i m₁ nx → (∀ p ∈ own, p.1 = l ∨ ∀ q ∈ news, q.1 < p.1) → (∀ b ∈ wr, ∀ q ∈ news, q.1 < b) → Fr h₀ env.locals h (fun z => if z = y then some (.int k t2) else if z = x then some (.int (i : Int) t) else m₁ z) → News h₀ env.locals h (own ++ nx) →
      wpAny (model prog w) A (execs body env) (LoopStepV h₀ env.locals wr own (J (i + 1)) { s with heap := h, toks := tk } (fun v s' => Q (.ret v) s') fun s' => Q .next s') E { s with heap := h, toks := tk })
    (done : ∀ h' tk m' nx, Fr h₀ env.locals h' m' → News h₀ env.locals h' nx → J ns.length m' nx → Q .next { s with heap := h', toks := tk }) :
    wpAny (model prog w) A (call (.type "enumerate") [.ref l]) (fun xv s₁ => wpAny (model prog w) A (pyIter xv) (fun it s₂ => TurnsAt prog w A h₀ env (.Tuple [.Name x px, .Name y py] x1 pt) body Q E it s₂) E s₁) E s := by
  have hls : s.heap.IsList l vs.toArray := ⟨lo, hl, hc, n, hd⟩
  have hlt : l < s.heap.objs.size := Heap.lt_size hl
  have hLs : env.locals < s.heap.objs.size := F.ns.lt
  refine call_enumerate_list hls fun h' hE hI hsz hk => ?_
  refine wpAny_pyIter_enum hE ?_
  refine ⟨_, _, _, vs.toArray.size, _, _, _, m₀, news, J, rfl, KTurns.ofWalksU (WalksT.enumerate hh (s.heap.objs.size + 1) s.heap.objs.size l (Nat.succ_ne_self _) (ktu_ne 1 hlt) (Nat.ne_of_lt hlt) vs.toArray).toU, ?_, ?_, ?_, ⟨⟨.none, hE⟩, hI, hls.at fun o e => hk l o e⟩, F.keeps hk, N.grown hk, hJ, ?_, ?_⟩
  · intro hI'
    have hb' : env.locals = s.heap.objs.size + 1 ∨ env.locals = s.heap.objs.size ∨ env.locals = l := by simpa using hI'
    rcases hb' with e | e | e
    · exact ktu_ne 1 hLs e
    · exact Nat.ne_of_lt hLs e
    · exact hlL e.symm
  · intro b hb
    have hb' : b = s.heap.objs.size + 1 ∨ b = s.heap.objs.size := by simpa using hb
    rcases hb' with rfl | rfl
    · exact ktu_new F (Nat.le_add_right _ _)
    · exact ktu_new F (Nat.le_refl _)
  · intro p hp hI'
    have hb' : p.1 = s.heap.objs.size + 1 ∨ p.1 = s.heap.objs.size := by simpa using hI'
    have hlp := Heap.lt_size (N p hp).1
    rcases hb' with e | e
    · exact ktu_ne 1 hlp e
    · exact Nat.ne_of_lt hlp e
  · rintro i v m₁ nx h₁ tk₁ own hin ⟨T, vals, rfl, ⟨t, k, hk1, rfl⟩, hT⟩ hj hnw hown _ _ _ F₁ N₁
    have hin' : i < ns.length := by have := hi.length; rw [List.size_toArray] at hin; lia
    obtain ⟨t2, hx2⟩ := hi.get i ns[i] (by simp [hin'])
    have hkv : k = .int ns[i] t2 := by
      have hP' : vs[i]? = some k := by simpa using hk1
      rw [hx2] at hP'; exact (Option.some.inj hP').symm
    subst hkv
    refine wpAny_assign_Tuple hh hT rfl rfl fun h₃ hx₃ => ?_
    have up₃ : ∀ b o, h₁.get? b = some o → h₃.get? b = some o := fun b o e => hx₃ b o (Nat.ne_of_lt (Heap.lt_size e)) e
    have F₃ : Fr h₀ env.locals h₃ m₁ := ⟨F₁.ns.at' fun o e => up₃ _ o e, fun b o e => up₃ b o (F₁.keep b o e), F₁.above⟩
    show wpAny _ A (do holding [Value.int ns[i] t2] (assign (.Name x px) env (.int (i : Int) t)); do holding [] (assign (.Name y py) env (.int ns[i] t2)); pure ()) _ _ _
    refine wpAny_bind (wpAny_holding (wpAny_assign_Name (wpAny_storeName_local hx F₃.ns (fun h₄ hn₄ hs₄ => ?_) hp)))
    replace hs₄ : Heap.SameBut env.locals h₃ h₄ := hs₄
    have F₄ := F₃.set hn₄ hs₄
    refine wpAny_bind (wpAny_holding (wpAny_assign_Name (wpAny_storeName_local hy F₄.ns (fun h₅ hn₅ hs₅ => wpAny_pure ?_) hp)))
    replace hs₅ : Heap.SameBut env.locals h₄ h₅ := hs₅
    have F₅ := F₄.set hn₅ hs₅
    have N₅ : News h₀ env.locals h₅ (own ++ nx) := fun p hp => ⟨(hs₅.2 _ (N₁ p hp).2.1).trans ((hs₄.2 _ (N₁ p hp).2.1).trans (up₃ _ _ (N₁ p hp).1)), (N₁ p hp).2⟩
    exact step i ns[i] t t2 m₁ nx h₅ _ own _ (by simp [hin']) hj (fun p hp => by
      have hb' : p.1 = s.heap.objs.size + 1 ∨ p.1 = s.heap.objs.size ∨ p.1 = l := by simpa using hown p hp
      rcases hb' with e | e | e
      · refine .inr fun q hq => ?_
        have := Heap.lt_size (N q hq).1
        rw [e]; exact Nat.lt_succ_of_lt this
      · refine .inr fun q hq => ?_
        rw [e]; exact Heap.lt_size (N q hq).1
      · exact .inl e) (fun b hb q hq => by
      have hlq := Heap.lt_size (N q hq).1
      have hb' : b = s.heap.objs.size + 1 ∨ b = s.heap.objs.size := by simpa using hb
      rcases hb' with e | e
      · rw [e]; exact Nat.lt_succ_of_lt hlq
      · rw [e]; exact hlq) F₅ N₅
  · intro h' tk m' nx F' N' hnw hj
    have e : vs.toArray.size = ns.length := by rw [List.size_toArray, hi.length]
    rw [e] at hj
    exact done h' tk m' nx F' N' hj
end

end
section
theorem calm_R1 : True := by
  w_top off
  trivial
/-- a row: five, seven or nine ints below 10 ** 6 -/
noncomputable def RowInts (vs : List Value) : Prop := (vs.length = 5 ∨ vs.length = 7 ∨ vs.length = 9) ∧ ∀ v ∈ vs, ∃ n t, v = .int n t ∧ 0 ≤ n ∧ n < 1000000
local macro_rules | `(tactic| walk_at "exec For Tuple Call") => `(tactic| apply halt)
local macro_rules | `(tactic| walk_at "call type:enumerate") => `(tactic| apply halt)
section
variable {prog : Program} {w : World} {A : Around} {E : Value → Shared → Prop} {s : Shared} {g : Heap} {L : Addr} {m : Str → Option Value} {Q : Value → Shared → Prop}
theorem len_y {a : Addr} {vs : List Value} (F : Fr g L s.heap m) (hl : g.IsList a vs.toArray) (hz : vs.length ≤ 63) (h : ∀ t tk, Q (.int (vs.length : Int) t) { s with toks := tk }) : wpAny (model prog w) A (call (.builtin "len") [.ref a]) Q E s := by
  have hs : s.heap.IsList a vs.toArray := hl.at fun o e => F.keep _ o e
  refine len_list hs (by rw [List.size_toArray]; lia) ?_
  rw [List.size_toArray]
  exact h _ _
theorem ints_mem : ∀ {vs : List Value} {ns : List Int}, IntsAre vs ns → ∀ v ∈ vs, ∃ n t, v = .int n t ∧ n ∈ ns
  | _, _, .nil, _, h => nomatch h
  | _, _, .cons n t r, v, h => by
    rcases List.mem_cons.mp h with rfl | h
    · exact ⟨n, t, rfl, .head _⟩
    · obtain ⟨k, u, e, hk⟩ := ints_mem r v h
      exact ⟨k, u, e, .tail _ hk⟩
theorem row_ints {ys : List Value} {is : List Int} {r : Nat} (h : IntsAre ys ((is.take (5 + 2 * (r : Int)).toNat).map fun k => k.fmod 1000000)) (h9 : is.length = 9) (hr : r < 3) : RowInts ys := by
  refine ⟨?_, fun v hv => ?_⟩
  · rw [h.length, List.length_map, List.length_take, h9]
    lia
  · obtain ⟨n, t, e, hn⟩ := ints_mem h v hv
    obtain ⟨k, _, rfl⟩ := List.mem_map.mp hn
    exact ⟨_, t, e, fmod_lo _ (by decide), fmod_hi _ (by decide)⟩
theorem step_end {g h' : Heap} {L D : Addr} {o : Obj} {wr : List Addr} {own : List (Addr × Obj)} {Jn : (Str → Option Value) → List (Addr × Obj) → Prop} {s₁ : Shared} {tk : Nat} {m' : Str → Option Value} (F : Fr g L h' m') (N : News g L h' ((D, o) :: own)) (hw : D ∉ wr) (hJ : Jn m' [(D, o)]) : LoopStepU g L wr own Jn s₁ .next { s₁ with heap := h', toks := tk } := by
  refine .intro F (news₂ := [(D, o)]) (fun q hq => N q ?_) (fun q hq hm => ?_) hJ
  · rcases List.mem_append.mp hq with hq | hq
    · exact .tail _ hq
    · rw [List.mem_singleton.mp hq]; exact .head _
  · rw [List.mem_singleton.mp hq] at hm
    exact hw hm
theorem mod3_y {n : Nat} {t u : Tok} (h : ∀ (r : Nat) t tk, r < 3 → Q (.int (r : Int) t) { s with toks := tk }) : wpAny (model prog w) A (binaryOp .Mod (.int (n : Int) t) (.int 3 u)) Q E s := by
  refine mod_int' (by decide) ?_
  have e : Int.fmod (n : Int) 3 = ((n % 3 : Nat) : Int) := by
    rw [Int.fmod_eq_emod_of_nonneg _ (by decide)]
    lia
  rw [e]
  exact h _ _ _ (Nat.mod_lt _ (by decide))
end
local macro_rules | `(tactic| walk_at "call builtin:len") => `(tactic| (k_here; k_dflt ((with_reducible apply len_y); k_asm; assumption; assumption); intros))
local macro_rules | `(tactic| walk_at "binaryOp Mod int int") => `(tactic| (k_here; k_dflt (with_reducible apply mod3_y); intros))
theorem row_go : ∀ (w : World) (dp un : Nat) (gd : Option (List Code)) (A₀ : Around) (base h₀ : Heap) (outer : List Env) (env : Env) (L : Addr) (m : Str → Option Value) (s : Shared) (p : Program) (loose : List Str) (mean : ExcName → Option Value) (mg mb : Str → Option Value),
    (hd.heap_39 w.params).In h₀ → Below A₀ base outer h₀ → Fr h₀ L s.heap m → Top p loose mean mg mb h₀ → env.frame = some L → env.scope.kind = .function → dp + 10 < recursionLimit → un + 100 < cLine →
    ∀ (a : Addr) (vs : List Value) (ns : List Int) (R : Result → Shared → Prop), h₀.IsList a vs.toArray → IntsAre vs ns → vs.length ≤ 63 →
    (∀ h' t' r its n, Stays s.heap h' → h'.get? r = some (listOf its n) → RowInts its.toList → R (.ok (.ret (.ref r))) { s with heap := h', toks := t' }) →
    codeAny (model PySem.Challenge.rw_kl0472_01.row.prog w) ⟨none, dp, some (env :: outer), gd, un⟩ (.call (.ref 128) ⟨[.ref a], []⟩) R s := by
  k_fill
  intro w dp un gd A₀ base h₀ outer env L m s p loose mean mg mb X B F T0 hf hke hroom hun a vs ns R hl hi hlen k
  have hroom0 : dp < recursionLimit := by lia
  have N : News h₀ L s.heap [] := News.nil
  k_dflt (refine' code_mine (K := hd.heap_39 w.params) ?k1 ?k2 ?k3 ?k4 ?k5 ?kA ?kF ?kK ?k6 ?k7 ?k8 ?k9 ?kB ?_ ?c2 ?c3 ?c4 ?c5; (case kA => exact rfl); (case kF => exact hf); (case kK => exact hke); (case k1 => k_asm); (case k2 => k_asm); (case k3 => k_asm); (case k4 => k_asm); (case k5 => k_asm); (case k6 => k_is); (case k7 => k_is); (case k8 => exact hroom0); (case k9 => first | exact BindsTo.of_eq rfl | exact binds_K (by k_in) rfl (by k_is) rfl rfl rfl); (case c5 => decide); (case kB => exact locs rfl); (case c2 => exact rfl); (case c3 => exact rfl); (case c4 => exact rfl); k_whole; intro g' L' h' kp st F' N' B' X' T'; (try dsimp only); (try k_fold))
  have kg : Stays s.heap g' := fun b o q => kp b o (fun z => nomatch z) q
  have hl2 : g'.IsList a vs.toArray := hl.at fun o e => st _ _ e
  k_steps
  refine halted ?_
  (with_reducible rename Fr g' _ _ _ => kF0)
  refine For_turns kF0 ?_
  k_steps
  refine halted ?_
  (with_reducible rename Fr g' _ _ _ => kF)
  (with_reducible rename News g' _ _ _ => kN)
  (with_reducible rename IntsAre _ (List.take 18 ns) => hi18)
  have hlp := kN _ (.head _)
  have hsd := kN _ (.tail _ (.head _))
  dsimp only at hlp hsd
  refine enum_J (n := 0) (ns := List.take 18 ns) (fun i m nx => ∃ its is9 k, nx = [(_, listOf its.toArray k)] ∧ IntsAre its is9 ∧ is9.length = 9 ∧ m "seeds" = some (.ref _) ∧ m "script" = some (.ref a)) rfl rfl rfl rfl kF (fun q hq => kN q (by rw [List.mem_singleton.mp hq]; exact .tail _ (.head _))) hlp.1 hlp.2.1 hlp.2.2 rfl rfl hi18 ⟨_, [103362, 224028, 50005, 350687, 455354, 600000, 750002, 173952, 843191], _, rfl, ?_, rfl, rfl, rfl⟩ ?_ ?_
  · exact .cons _ _ (.cons _ _ (.cons _ _ (.cons _ _ (.cons _ _ (.cons _ _ (.cons _ _ (.cons _ _ (.cons _ _ .nil))))))))
  · clear k
    rintro i kk t t2 m₁ nx h1 tk1 own wr - ⟨its, is9, k1, rfl, q1, q2, q3, q4⟩ ho hw F1 N1
    have F1 := fr_if (fr_if F1 (y := Str.ofString "script") (by rw [if_neg (by decide), if_neg (by decide)]; exact q4)) (y := Str.ofString "seeds") (by rw [if_neg (by decide), if_neg (by decide), if_neg (by decide)]; exact q3)
    have hoS : ∀ p ∈ own, p.1 ≠ _ := fun p hp => (ho p hp).elim (fun q => by rw [q]; exact Nat.ne_of_gt (by assumption)) (fun q => Nat.ne_of_gt (q _ (.head _)))
    have N2 : News g' L' h1 ([(_, listOf its.toArray k1)] ++ own) := fun q hq => N1 q (by
      rcases List.mem_append.mp hq with hq | hq
      · exact List.mem_append_right _ hq
      · exact List.mem_append_left _ hq)
    simp only [List.cons_append, List.nil_append] at N2
    clear kF kN N1
    dsimp only
    k_steps
    (with_reducible rename Fr g' _ _ _ => kF)
    (with_reducible rename News g' _ _ _ => kN)
    refine step_end kF kN (fun hm => absurd (hw _ hm _ (.head _)) (Nat.lt_irrefl _)) ⟨_, _, _, rfl, by assumption, ?_, rfl, rfl⟩
    rw [List.length_set]; exact q2
  · rintro h1 tk1 m1 nx F1 N1 ⟨its, is9, k1, rfl, q1, q2, q3, q4⟩
    have F1 := fr_if (fr_if F1 (y := Str.ofString "script") q4) (y := Str.ofString "seeds") (by rw [if_neg (by decide)]; exact q3)
    clear kF kN
    dsimp only
    k_steps
    (with_reducible rename Fr g' _ _ _ => kF)
    (with_reducible rename News g' _ _ _ => kN)
    exact k _ _ _ _ _ (fun b o e => kF.keep _ _ (kg _ _ e)) (news_at kN (.head _)) (row_ints (by assumption) q2 (by assumption))

end
section
/-- the things that the comprehension has made, in its ledger -/
noncomputable def LeafN (news : List (Addr × Obj)) (v : Value) : Prop := ∃ (g : Thing) (n : List Nat) (val : Option (List Nat)) (a : Addr) (gv vv : Value) (t : Tok), LeafGood g n val ∧ v = .ref a ∧ 82 < a ∧ (a, tupOf [gv, .str (S n) t, vv]) ∈ news ∧ ThingIs g gv ∧ ValIs (val.map S) vv
theorem LeafN.mono {n n' : List (Addr × Obj)} (s : ∀ p ∈ n, p ∈ n') {v : Value} (x : LeafN n v) : LeafN n' v := by
  obtain ⟨g, n, val, a, gv, vv, t, h1, h2, h3, h4, h5⟩ := x
  exact ⟨g, n, val, a, gv, vv, t, h1, h2, h3, s _ h4, h5⟩
/-- all trees of good leaves, and how deep and large they may be -/
noncomputable def Tree.good : Tree → Prop
  | .leaf g name val => ∃ n v, name = S n ∧ val = v.map S ∧ LeafGood g n v
  | .node a b c => a.good ∧ b.good ∧ c.good
noncomputable def Tree.size : Tree → Nat
  | .leaf _ _ _ => 1
  | .node a b c => 1 + a.size + b.size + c.size
noncomputable def Tree.isNode : Tree → Prop
  | .leaf _ _ _ => False
  | .node _ _ _ => True
section
open PyProof.Rows LCg
variable {prog : Program} {w : World} {A : Around} {h₀ : Heap} {L : Addr} {m : Str → Option Value} {env : Env} {elt : PySem.Expr} {x : Str} {scope : Scope} {cl : List (Str × Addr)} {s : Shared} {S : List (Addr × Obj) → Prop} {P : Nat → Value → Prop} {Fin : List Value → List (Addr × Obj) → Prop}
/-- the turns of a comprehension by a word of what it has made -/
theorem comp_J {n : Nat} (J : Nat → List Value → List (Addr × Obj) → Prop)
    (turn : ∀ i v ys news I oI C oC D m₂ h tk (E' : Value → Shared → Prop), i < n → P i v → J i ys news → NsObj oC m₂ → m₂ x = some v → Fr h₀ L h m → News h₀ L h ((I, oI) :: (C, oC) :: (D, lst ys) :: news) → Off3 I C D news → ((@Ne Nat I C) ∧ (@Ne Nat I D) ∧ (@Ne Nat C D)) →
      wpAny (model prog w) A (eval elt (compEnvC scope cl C env)) (CompEnd h₀ L m { s with heap := h, toks := tk } I oI C oC D (lst ys) S (fun y news' => J (i + 1) (ys ++ [y]) news')) E' { s with heap := h, toks := tk })
    (fin : ∀ ys news, J n ys news → Fin ys news) : ∀ (k i : Nat) (ys : List Value) (news : List (Addr × Obj)), i + k = n → J i ys news → CompRest prog w A h₀ L m env elt x scope cl s S P Fin k i ys news := by
  intro k
  induction k with
  | zero =>
    intro i ys news hi hJ
    have e : i = n := by lia
    subst e
    exact CompRest.zero (fin ys news hJ)
  | succ k ih =>
    intro i ys news hi hJ
    refine CompRest.succ ?_
    intro v I oI C oC D m₂ h tk E' hv hC hx F N off ne
    refine wpAny_mono (turn i v ys news I oI C oC D m₂ h tk E' (by lia) hv hJ hC hx F N off ne) (fun y s₂ hq => ?_) fun _ _ e => e
    obtain ⟨h', tk', nw, e, F', N', off', hS, hJ'⟩ := hq
    exact ⟨h', tk', nw, e, F', N', off', hS, ih (i + 1) _ _ (by lia) hJ'⟩
end
/-- a tree in a ledger -/
noncomputable def TreeN (news : List (Addr × Obj)) : Tree → Value → Prop
  | .leaf g name val, v => ∃ a gv t vv, v = .ref a ∧ 82 < a ∧ (a, tupOf [gv, .str name t, vv]) ∈ news ∧ ThingIs g gv ∧ ValIs val vv
  | .node a b c, v => ∃ x va vb vc n, v = .ref x ∧ 82 < x ∧ (x, listOf #[va, vb, vc] n) ∈ news ∧ TreeN news a va ∧ TreeN news b vb ∧ TreeN news c vc
theorem TreeN.mono {n n' : List (Addr × Obj)} (s : ∀ p ∈ n, p ∈ n') : ∀ {t : Tree} {v : Value}, TreeN n t v → TreeN n' t v := by
  intro t
  induction t with
  | leaf _ _ _ =>
    rintro v ⟨a, gv, t, vv, h1, h2, h3, h4⟩
    exact ⟨a, gv, t, vv, h1, h2, s _ h3, h4⟩
  | node _ _ _ ia ib ic =>
    rintro v ⟨x, va, vb, vc, n, h1, h2, h3, h4, h5, h6⟩
    exact ⟨x, va, vb, vc, n, h1, h2, s _ h3, ia h4, ib h5, ic h6⟩
theorem far {a : Addr} (h : 82 < a) : a ∉ ([65, 82] : List Addr) := by
  have h' : @LT.lt Nat _ 82 a := h
  intro hm
  rcases List.mem_cons.mp hm with q | q
  · rw [q] at h'; exact absurd h' (by decide)
  · rw [List.mem_singleton.mp q] at h'; exact absurd h' (by decide)
theorem TreeN.heap {g h : Heap} {L : Addr} {news : List (Addr × Obj)} (N : News g L h news) : ∀ {t : Tree} {v : Value}, TreeN news t v → TreeH h t v := by
  intro t
  induction t with
  | leaf _ _ _ =>
    rintro v ⟨a, gv, t, vv, h1, h2, h3, h4⟩
    exact ⟨a, gv, t, vv, h1, far h2, (N _ h3).1, h4⟩
  | node _ _ _ ia ib ic =>
    rintro v ⟨x, va, vb, vc, n, h1, h2, h3, h4, h5, h6⟩
    exact ⟨x, va, vb, vc, n, h1, far h2, (N _ h3).1, ia h4, ib h5, ic h6⟩
theorem leaf_tree {news : List (Addr × Obj)} {v : Value} (x : LeafN news v) : ∃ t : Tree, TreeN news t v ∧ t.good ∧ t.depth = 0 ∧ t.size = 1 := by
  obtain ⟨g, n, val, a, gv, vv, t, h1, rfl, h3, h4, h5, h6⟩ := x
  exact ⟨.leaf g (S n) (val.map S), ⟨a, gv, t, vv, rfl, h3, h4, h5, h6⟩, ⟨n, val, rfl, rfl, h1⟩, rfl, rfl⟩
noncomputable def total (trs : List Tree) : Nat := (trs.map Tree.size).sum
/-- things, in a ledger: the trees that they are -/
noncomputable def ThingsN (news : List (Addr × Obj)) (ts : List Value) (trs : List Tree) : Prop := All2 (fun v t => TreeN news t v ∧ t.good) ts trs
theorem leaves_things {news : List (Addr × Obj)} : ∀ {ys : List Value}, (∀ y ∈ ys, LeafN news y) → ∃ trs, ThingsN news ys trs ∧ (∀ t ∈ trs, t.depth ≤ 0) ∧ total trs = ys.length
  | [], _ => ⟨[], .nil, (fun _ q => nomatch q), rfl⟩
  | y :: r, h => by
    obtain ⟨trs, h1, h2, h3⟩ := leaves_things (ys := r) fun z hz => h z (.tail _ hz)
    obtain ⟨t, k1, k2, k3, k4⟩ := leaf_tree (h y (.head _))
    refine ⟨t :: trs, .cons ⟨k1, k2⟩ h1, fun u hu => ?_, ?_⟩
    · rcases List.mem_cons.mp hu with rfl | hu
      · lia
      · exact h2 u hu
    · show t.size + total trs = r.length + 1
      lia
theorem split3 {α β : Type} {R : α → β → Prop} : ∀ (k : Nat) {l : List α} {m : List β}, All2 R l m → k + 3 ≤ l.length → ∃ A a b c B A' x y z B', l = A ++ a :: b :: c :: B ∧ m = A' ++ x :: y :: z :: B' ∧ A.length = k ∧ All2 R A A' ∧ R a x ∧ R b y ∧ R c z ∧ All2 R B B' := by
  intro k
  induction k with
  | zero =>
    intro l m h hk
    cases h with
    | nil => simp at hk
    | cons h1 h =>
      cases h with
      | nil => simp at hk
      | cons h2 h =>
        cases h with
        | nil => simp at hk
        | cons h3 h => exact ⟨[], _, _, _, _, [], _, _, _, _, rfl, rfl, rfl, .nil, h1, h2, h3, h⟩
  | succ k ih =>
    intro l m h hk
    cases h with
    | nil => exact absurd hk (Nat.not_succ_le_zero _)
    | cons h1 h =>
      obtain ⟨A, p, q, r, B, A', x', y', z', B', e1, e2, e3, e4, e5, e6, e7, e8⟩ := ih h (Nat.le_of_succ_le_succ (by rw [Nat.succ_add] at hk; exact hk))
      exact ⟨_ :: A, p, q, r, B, _ :: A', x', y', z', B', by rw [e1]; rfl, by rw [e2]; rfl, congrArg Nat.succ e3, .cons h1 e4, e5, e6, e7, e8⟩
/-- three neighbours become one -/
theorem things_merge {news news' : List (Addr × Obj)} {ts : List Value} {trs : List Tree} {k j : Nat} {D : Addr} {nd : Nat} (h : ThingsN news ts trs) (hk : k + 3 ≤ ts.length) (sub : ∀ p ∈ news, p ∈ news') (hD : 82 < D) (hm : (D, listOf ((ts.drop k).take 3).toArray nd) ∈ news') (hd : ∀ t ∈ trs, t.depth ≤ j) :
    ∃ trs', ThingsN news' (ts.take k ++ [.ref D] ++ ts.drop (k + 3)) trs' ∧ (∀ t ∈ trs', t.depth ≤ j + 1) ∧ total trs' = total trs + 1 := by
  obtain ⟨A, a, b, c, B, A', x, y, z, B', rfl, rfl, hA, h1, h2, h3, h4, h5⟩ := split3 k h hk
  have mono : ∀ v t, TreeN news t v ∧ t.good → TreeN news' t v ∧ t.good := fun v t q => ⟨q.1.mono sub, q.2⟩
  have e1 : (A ++ a :: b :: c :: B).take k = A := by rw [← hA]; exact List.take_left
  have e2 : (A ++ a :: b :: c :: B).drop k = a :: b :: c :: B := by rw [← hA]; exact List.drop_left
  have e3 : (A ++ a :: b :: c :: B).drop (k + 3) = B := by rw [← List.drop_drop, e2]; rfl
  rw [e2] at hm
  rw [e1, e3]
  have hn : TreeN news' (.node x y z) (.ref D) ∧ (Tree.node x y z).good := ⟨⟨D, a, b, c, nd, rfl, hD, hm, h2.1.mono sub, h3.1.mono sub, h4.1.mono sub⟩, h2.2, h3.2, h4.2⟩
  refine ⟨A' ++ [.node x y z] ++ B', forall2_app (forall2_app (forall2_mono mono h1) (.cons hn .nil)) (forall2_mono mono h5), fun t ht => ?_, ?_⟩
  · rcases List.mem_append.mp ht with ht | ht
    · rcases List.mem_append.mp ht with ht | ht
      · have := hd t (List.mem_append_left _ ht); lia
      · rw [List.mem_singleton.mp ht]
        have dx := hd x (List.mem_append_right _ (.head _))
        have dy := hd y (List.mem_append_right _ (.tail _ (.head _)))
        have dz := hd z (List.mem_append_right _ (.tail _ (.tail _ (.head _))))
        show 1 + max x.depth (max y.depth z.depth) ≤ j + 1
        lia
    · have := hd t (List.mem_append_right _ (.tail _ (.tail _ (.tail _ ht)))); lia
  · unfold total
    simp only [List.map_append, List.map_cons, List.map_nil, List.sum_append, List.sum_cons, List.sum_nil, Tree.size]
    lia
theorem pick_upto {ts : List Value} {k : Nat} (hk : k ≤ ts.length) : slicePick ts.toArray none (some (k : Int)) none = (ts.take k).toArray := by
  have e : sliceBounds none (some (k : Int)) none ts.toArray.size = (((0 : Nat) : Int), ((k : Nat) : Int), 1) := by
    simp only [sliceBounds, Option.getD_none, show (1 : Int) > 0 by decide, if_true, if_neg (show ¬ ((k : Int) < 0) by lia), List.size_toArray]
    congr 1
    congr 1
    lia
  rw [kmk_pick_nat _ e]
  simp
theorem pick_mid {ts : List Value} {k : Nat} (hk : k + 3 ≤ ts.length) : slicePick ts.toArray (some (k : Int)) (some ((k : Int) + 3)) none = ((ts.drop k).take 3).toArray := by
  have e : sliceBounds (some (k : Int)) (some ((k : Int) + 3)) none ts.toArray.size = (((k : Nat) : Int), ((k + 3 : Nat) : Int), 1) := by
    simp only [sliceBounds, Option.getD_none, show (1 : Int) > 0 by decide, if_true, if_neg (show ¬ ((k : Int) < 0) by lia), if_neg (show ¬ ((k : Int) + 3 < 0) by lia), List.size_toArray]
    congr 1
    · lia
    · congr 1
      lia
  rw [kmk_pick_nat _ e, Nat.add_sub_cancel_left]
theorem pick_from {ts : List Value} {k : Nat} (hk : k + 3 ≤ ts.length) : slicePick ts.toArray (some ((k : Int) + 3)) none none = (ts.drop (k + 3)).toArray := by
  have e : sliceBounds (some ((k : Int) + 3)) none none ts.toArray.size = (((k + 3 : Nat) : Int), ((ts.length : Nat) : Int), 1) := by
    simp only [sliceBounds, Option.getD_none, show (1 : Int) > 0 by decide, if_true, if_neg (show ¬ ((k : Int) + 3 < 0) by lia), List.size_toArray]
    congr 1
    lia
  rw [kmk_pick_nat _ e]
  show ((ts.drop (k + 3)).take (ts.length - (k + 3))).toArray = _
  rw [List.take_of_length_le (by rw [List.length_drop]; lia)]
section
variable {prog : Program} {w : World} {A : Around} {E : Value → Shared → Prop} {s : Shared} {g : Heap} {L : Addr} {m : Str → Option Value} {Q : Value → Shared → Prop} {news : List (Addr × Obj)}
theorem len_n {a : Addr} {vs : List Value} {n : Nat} (N : News g L s.heap news) (hm : (a, listOf vs.toArray n) ∈ news) (hz : vs.length ≤ 63) (h : ∀ t tk, Q (.int (vs.length : Int) t) { s with toks := tk }) : wpAny (model prog w) A (call (.builtin "len") [.ref a]) Q E s := by
  have hs : s.heap.IsList a vs.toArray := ⟨_, (N _ hm).1, rfl, _, rfl⟩
  refine len_list hs (by rw [List.size_toArray]; lia) ?_
  rw [List.size_toArray]
  exact h _ _
theorem modk_y {a b : Int} {t u : Tok} (hb : 0 < b) (h : ∀ (k : Nat) t tk, (k : Int) < b → Q (.int (k : Int) t) { s with toks := tk }) : wpAny (model prog w) A (binaryOp .Mod (.int a t) (.int b u)) Q E s := by
  refine mod_int' (by lia) ?_
  have h0 := fmod_lo a hb
  have h1 := fmod_hi a hb
  have e : a.fmod b = (((a.fmod b).toNat : Nat) : Int) := by lia
  rw [e]
  exact h _ _ _ (by lia)
theorem first_n {value slice : PySem.Expr} {a : Addr} {v : Value} {n : Nat} {u : Tok} (N : News g L s.heap news) (hm : (a, listOf #[v] n) ∈ news) 
    (hs : subscripted slice false (.ref a) (.int 0 u) = operate [.ref a, .int 0 u] (getItem (.ref a) (.int 0 u))) (hg : ∀ r, letTemporaryGo value (.ref a) r = pure ()) (h : Q v s) :
    wpAny (model prog w) A (subscriptTail value slice (.ref a) (.int 0 u)) Q E s :=
  item_list (items := #[v]) ⟨_, (N _ hm).1, rfl, _, rfl⟩ (by decide) (by decide) rfl h hs hg
end
theorem leaf_step {g h h2 : Heap} {L I C D : Addr} {m : Str → Option Value} {oI oC oD : Obj} {tb tb2 t65 : Array Value} {rest : List (Addr × Obj)} {v2 : Value} (F : Fr g L h m) (N : News g L h ((I, oI) :: (C, oC) :: (D, oD) :: (82, tabObj tb) :: (65, tabObj t65) :: rest)) (off : LCg.Off3 I C D ((82, tabObj tb) :: (65, tabObj t65) :: rest))
    (b2 : But [82] h h2) (e2 : h2.get? 82 = some (tabObj tb2)) (tab2 : TabH h2 57 50 qualJ tb2) (nt2 : NewTab h 57 50 tb tb2) (leaf2 : LeafH h2 v2) (fresh2 : ∀ a, v2 = .ref a → h.get? a = none ∧ 82 < a) (hT : TabN g 57 50 qualJ rest tb) (hr82 : ∀ q ∈ rest, 82 < q.1) :
    ∃ rest', Fr g L h2 m ∧ News g L h2 ((I, oI) :: (C, oC) :: (D, oD) :: (82, tabObj tb2) :: (65, tabObj t65) :: rest') ∧ LCg.Off3 I C D ((82, tabObj tb2) :: (65, tabObj t65) :: rest') ∧ (∀ p ∈ rest, p ∈ rest') ∧ LeafN rest' v2 ∧ TabN g 57 50 qualJ rest' tb2 ∧ (∀ q ∈ rest', 82 < q.1) := by
  obtain ⟨gg, n, val, good, a, gv, t, vv, rfl, ha, hget, hth, hv⟩ := leaf2
  obtain ⟨fa, a82⟩ := fresh2 a rfl
  have g82 := (N (82, tabObj tb) (.tail _ (.tail _ (.tail _ (.head _))))).2
  have F2 : Fr g L h2 m := but_fr b2 F (fun x hx => by rw [List.mem_singleton.mp hx]; exact ⟨g82.2, g82.1⟩)
  have offm := off.mem
  obtain ⟨o1, o2, o3⟩ := offm _ (.head _)
  have old : ∀ p : Addr × Obj, p.1 ≠ 82 → (h.get? p.1 = some p.2 ∧ p.1 ≠ L ∧ g.get? p.1 = none) → (h2.get? p.1 = some p.2 ∧ p.1 ≠ L ∧ g.get? p.1 = none) := fun p hp q => ⟨b2 _ _ (fun z => hp (List.mem_singleton.mp z)) q.1, q.2⟩
  have newp : ∀ (b : Addr) (o : Obj), h.get? b = none → h2.get? b = some o → (h2.get? b = some o ∧ b ≠ L ∧ g.get? b = none) ∧ b ≠ I ∧ b ≠ C ∧ b ≠ D := by
    intro b o hb hb2
    refine ⟨⟨hb2, ?_, ?_⟩, ?_, ?_, ?_⟩
    · intro q
      obtain ⟨ol, _, _, e, _⟩ := F.ns
      rw [← q, hb] at e; cases e
    · cases q : g.get? b with
      | none => rfl
      | some o' => have := F.keep _ _ q; rw [hb] at this; cases this
    · intro q
      have := (N (I, oI) (.head _)).1
      dsimp only at this
      rw [← q, hb] at this; cases this
    · intro q
      have := (N (C, oC) (.tail _ (.head _))).1
      dsimp only at this
      rw [← q, hb] at this; cases this
    · intro q
      have := (N (D, oD) (.tail _ (.tail _ (.head _)))).1
      dsimp only at this
      rw [← q, hb] at this; cases this
  have key : ∀ (ex : List (Addr × Obj)), (∀ p ∈ ex, h.get? p.1 = none ∧ h2.get? p.1 = some p.2 ∧ 82 < p.1) → TabN g 57 50 qualJ (ex ++ (a, tupOf [gv, .str (S n) t, vv]) :: rest) tb2 →
      ∃ rest', Fr g L h2 m ∧ News g L h2 ((I, oI) :: (C, oC) :: (D, oD) :: (82, tabObj tb2) :: (65, tabObj t65) :: rest') ∧ LCg.Off3 I C D ((82, tabObj tb2) :: (65, tabObj t65) :: rest') ∧ (∀ p ∈ rest, p ∈ rest') ∧ LeafN rest' (.ref a) ∧ TabN g 57 50 qualJ rest' tb2 ∧ (∀ q ∈ rest', 82 < q.1) := by
    intro ex hex hTab
    have allNew : ∀ p ∈ ex ++ [(a, tupOf [gv, .str (S n) t, vv])], h.get? p.1 = none ∧ h2.get? p.1 = some p.2 ∧ 82 < p.1 := by
      intro p hp
      rcases List.mem_append.mp hp with hp | hp
      · exact hex p hp
      · rw [List.mem_singleton.mp hp]; exact ⟨fa, hget, a82⟩
    have split : ∀ p ∈ ex ++ (a, tupOf [gv, .str (S n) t, vv]) :: rest, p ∈ ex ++ [(a, tupOf [gv, .str (S n) t, vv])] ∨ p ∈ rest := by
      intro p hp
      rcases List.mem_append.mp hp with hp | hp
      · exact .inl (List.mem_append_left _ hp)
      · rcases List.mem_cons.mp hp with rfl | hp
        · exact .inl (List.mem_append_right _ (.head _))
        · exact .inr hp
    refine ⟨ex ++ (a, tupOf [gv, .str (S n) t, vv]) :: rest, F2, ?_, ?_, fun p hp => List.mem_append_right _ (.tail _ hp), ⟨gg, n, val, a, gv, vv, t, good, rfl, a82, List.mem_append_right _ (.head _), hth, hv⟩, hTab, ?_⟩
    · intro p hp
      rcases List.mem_cons.mp hp with rfl | hp
      · exact old _ (fun q => o1 q.symm) (N _ (.head _))
      rcases List.mem_cons.mp hp with rfl | hp
      · exact old _ (fun q => o2 q.symm) (N _ (.tail _ (.head _)))
      rcases List.mem_cons.mp hp with rfl | hp
      · exact old _ (fun q => o3 q.symm) (N _ (.tail _ (.tail _ (.head _))))
      rcases List.mem_cons.mp hp with rfl | hp
      · exact ⟨e2, g82⟩
      rcases List.mem_cons.mp hp with rfl | hp
      · exact old (65, tabObj t65) (show (65 : Addr) ≠ 82 by decide) (N (65, tabObj t65) (.tail _ (.tail _ (.tail _ (.tail _ (.head _))))))
      rcases split p hp with hp | hp
      · obtain ⟨q1, q2, _⟩ := allNew p hp
        exact (newp _ _ q1 q2).1
      · exact old p (fun q => by have := hr82 p hp; rw [q] at this; exact absurd this (Nat.lt_irrefl _)) (N p (.tail _ (.tail _ (.tail _ (.tail _ (.tail _ hp))))))
    · refine LCg.Off3.of fun p hp => ?_
      rcases List.mem_cons.mp hp with rfl | hp
      · exact ⟨o1, o2, o3⟩
      rcases List.mem_cons.mp hp with rfl | hp
      · exact offm (65, tabObj t65) (.tail _ (.head _))
      rcases split p hp with hp | hp
      · obtain ⟨q1, q2, _⟩ := allNew p hp
        exact (newp _ _ q1 q2).2
      · exact offm p (.tail _ (.tail _ hp))
    · intro p hp
      rcases split p hp with hp | hp
      · exact (allNew p hp).2.2
      · exact hr82 p hp
  rcases nt2 with rfl | ⟨c', e, nc⟩
  · exact key [] (fun _ q => nomatch q) (hT.ext fun p hp => .tail _ hp)
  · rcases tab2 with rfl | ⟨c2, oc, vs, tq, ee, h1, hh2, h3, h4⟩
    · cases e
    · have ec : c2 = c' := by
        rw [ee] at e
        injection e with e
        injection e with _ e
        injection e with _ e
        injection e with e _
        injection e with e
      subst ec
      exact key [(c2, oc)] (fun p hp => by rw [List.mem_singleton.mp hp]; exact ⟨nc, hh2, h1⟩) (.inr ⟨c2, oc, vs, tq, ee, h1, .inr (.head _), h3, h4⟩)

end
section
theorem calm_T1 : True := by
  w_top off
  trivial
section
variable {prog : Program} {w : World} {A : Around} {E : Value → Shared → Prop} {s : Shared} {g : Heap} {L a b : Addr} {m : Str → Option Value} {news : List (Addr × Obj)} {Q : Value → Shared → Prop}
theorem slice_y {value slice : PySem.Expr} {vs : List Value} {vl vu : Value} {lo hi : Option Int} {l : Addr} (F : Fr g L s.heap m) (N : News g L s.heap news) (hl : s.heap.IsList l vs.toArray) (pl : IsPart vl lo) (pu : IsPart vu hi) (hz : vs.length ≤ 63)
    (hs : subscripted slice false (.ref l) (.ref s.heap.objs.size) = operate [.ref s.heap.objs.size, .ref l] (getItem (.ref l) (.ref s.heap.objs.size))) (ht : ∀ r, letTemporaryGo value (.ref l) r = pure ())
    (h : ∀ D h', Fr g L h' m → News g L h' ((D, listOf (slicePick vs.toArray lo hi none) 0) :: news) → (∀ p ∈ news, p.1 < D) → Q (.ref D) { s with heap := h' }) :
    wpAny (model prog w) A (subscriptTail value slice (.ref l) (.ref s.heap.objs.size)) Q E { s with heap := s.heap.push { cls := .type "slice", data := .fields #[vl, vu, .none] } } :=
  kmk_slice F N hl pl pu h hs ht (by rw [List.size_toArray]; exact line_100 (by lia))
theorem cat_y {its its2 : Array Value} {zs : List Value} (F : Fr g L s.heap m) (N : News g L s.heap news) (ha : s.heap.IsList a its) (hb : s.heap.IsList b its2) (e : its.toList ++ its2.toList = zs) (hz : its.toList.length + its2.toList.length ≤ sizeLine)
    (h : ∀ D h', Fr g L h' m → News g L h' ((D, listOf zs.toArray 0) :: news) → (∀ p ∈ news, p.1 < D) → Q (.ref D) { s with heap := h' }) : wpAny (model prog w) A (binaryOp .Add (.ref a) (.ref b)) Q E s := kmk_add_lit F N ha hb e h hz
end
theorem pick_63 {a : Array Value} {lo hi : Option Int} (h : a.size ≤ 63) : (slicePick a lo hi none).toList.length ≤ 63 := by
  have := slicePick_size_le a lo hi none
  rw [Array.length_toList]; lia
theorem cat_z1 {l : List Value} {lo hi : Option Int} {x : Value} (h : l.length ≤ 63) : (slicePick l.toArray lo hi none).toList.length + (#[x] : Array Value).toList.length ≤ sizeLine := by
  have := pick_63 (a := l.toArray) (lo := lo) (hi := hi) (by rw [List.size_toArray]; exact h)
  exact line_100 (by show _ + 1 ≤ _; lia)
theorem cat_z2 {l : List Value} {lo hi lo2 hi2 : Option Int} {x : Value} (h : l.length ≤ 63) : ((slicePick l.toArray lo hi none).toList ++ (#[x] : Array Value).toList).toArray.toList.length + (slicePick l.toArray lo2 hi2 none).toList.length ≤ sizeLine := by
  have h1 := pick_63 (a := l.toArray) (lo := lo) (hi := hi) (by rw [List.size_toArray]; exact h)
  have h2 := pick_63 (a := l.toArray) (lo := lo2) (hi := hi2) (by rw [List.size_toArray]; exact h)
  refine line_100 ?_
  rw [List.toList_toArray, List.length_append]
  show _ + 1 + _ ≤ _
  lia
noncomputable def TJ (g : Heap) (t65 : Array Value) (N0 i : Nat) (m : Str → Option Value) (nx : List (Addr × Obj)) : Prop :=
  ∃ (ts : List Value) (n : Nat) (tb : Array Value) (rest : List (Addr × Obj)) (th : Addr) (trs : List Tree) (j : Nat), nx = (th, listOf ts.toArray n) :: (82, tabObj tb) :: (65, tabObj t65) :: rest ∧ m "things" = some (.ref th) ∧ ThingsN rest ts trs ∧ (∀ t ∈ trs, t.depth ≤ j) ∧ total trs = N0 + j ∧ ts.length + 2 * j = N0 ∧ (j = i ∨ ts.length = 1) ∧ TabN g 57 50 qualJ rest tb ∧ (∀ q ∈ rest, 82 < q.1)
local macro_rules | `(tactic| walk_at "exec For") => `(tactic| apply halt)
local macro_rules | `(tactic| walk_at "call ref") => `(tactic| apply halt)
local macro_rules | `(tactic| walk_at "CompSrc") => `(tactic| apply halt)
local macro_rules | `(tactic| walk_at "exec Assign cons ListComp") => `(tactic| apply halt)
local macro_rules | `(tactic| walk_at "call builtin:len") => `(tactic| (k_here; k_dflt ((with_reducible apply len_n); k_asm; k_mem; lia); intros))
local macro_rules | `(tactic| walk_at "binaryOp Mod int int") => `(tactic| (k_here; k_dflt ((with_reducible apply modk_y); lia); intros))
local macro_rules | `(tactic| walk_at "subscriptTail Name Slice ref ref") => `(tactic| (k_here; k_dflt ((with_reducible apply slice_y); k_asm; k_asm; kmk_list; kmk_part; kmk_part; lia; with_unfolding_all rfl; kmk_pure; walk_at "lt")))
local macro_rules | `(tactic| walk_at "binaryOp Add ref ref") => `(tactic| (k_here; k_dflt ((with_reducible apply cat_y); k_asm; k_asm; kmk_list; kmk_list; exact rfl; (first | apply cat_z1 | apply cat_z2); lia; walk_at "lt")))
local macro_rules | `(tactic| walk_at "subscriptTail Name Constant ref int") => `(tactic| (k_here; k_dflt ((with_reducible apply first_n); k_asm; k_mem; with_unfolding_all rfl; kmk_pure)))
theorem tree_turn {g h' : Heap} {L I D1 D2 D3 D4 D5 D6 th : Addr} {io o1 o3 o4 o5 : Obj} {m' : Str → Option Value} {ts : List Value} {k n i j tk N0 : Nat} {tb t65 : Array Value} {rest : List (Addr × Obj)} {trs : List Tree} {s : Shared} {Q : Flow → Shared → Prop} (F : Fr g L h' m')
    (N : News g L h' ((D6, listOf (((slicePick ts.toArray none (some (k : Int)) none).toList ++ (#[Value.ref D2] : Array Value).toList).toArray.toList ++ (slicePick ts.toArray (some ((k : Int) + 3)) none none).toList).toArray 0) :: (D5, o5) :: (D4, o4) :: (D3, o3) :: (D2, listOf (slicePick ts.toArray (some (k : Int)) (some ((k : Int) + 3)) none) 0) :: (D1, o1) :: (I, io) :: (th, listOf ts.toArray n) :: (82, tabObj tb) :: (65, tabObj t65) :: rest))
    (hk : (k : Int) < (ts.length : Int) - 2) (hm : m' "things" = some (.ref D6)) (d6 : I < D6) (d2 : I < D2 ∧ th < D2 ∧ 82 < D2) (hts : ThingsN rest ts trs) (hd : ∀ t ∈ trs, t.depth ≤ j) (htot : total trs = N0 + j) (hlen : ts.length + 2 * j = N0) (hj : j = i ∨ ts.length = 1) (hT : TabN g 57 50 qualJ rest tb) (hr : ∀ q ∈ rest, 82 < q.1)
    (hnI : ∀ p ∈ (th, listOf ts.toArray n) :: (82, tabObj tb) :: (65, tabObj t65) :: rest, p.1 ≠ I) : TurnEnd g L I io (TJ g t65 N0 (i + 1)) s Q .next { s with heap := h', toks := tk } := by
  have hk3 : k + 3 ≤ ts.length := by lia
  rw [pick_upto (by lia), pick_mid hk3, pick_from hk3] at N
  simp only [List.toList_toArray] at N
  obtain ⟨trs', q1, q2, q3⟩ := things_merge (news' := (D2, listOf ((ts.drop k).take 3).toArray 0) :: rest) hts hk3 (fun p hp => .tail _ hp) d2.2.2 (.head _) hd
  refine turn_end ((D6, listOf (ts.take k ++ [Value.ref D2] ++ ts.drop (k + 3)).toArray 0) :: (82, tabObj tb) :: (65, tabObj t65) :: (D2, listOf ((ts.drop k).take 3).toArray 0) :: rest) F N (by k_mem) (fun p hp => ?_) (fun p hp => ?_)
    ⟨ts.take k ++ [Value.ref D2] ++ ts.drop (k + 3), 0, tb, (D2, listOf ((ts.drop k).take 3).toArray 0) :: rest, D6, trs', j + 1, rfl, hm, q1, q2, by lia, ?_, ?_, hT.ext fun p hp => .tail _ hp, fun q hq => ?_⟩
  · rcases List.mem_cons.mp hp with rfl | hp
    · exact .head _
    rcases List.mem_cons.mp hp with rfl | hp
    · k_mem
    rcases List.mem_cons.mp hp with rfl | hp
    · k_mem
    rcases List.mem_cons.mp hp with rfl | hp
    · k_mem
    · exact .tail _ (.tail _ (.tail _ (.tail _ (.tail _ (.tail _ (.tail _ (.tail _ (.tail _ (.tail _ hp)))))))))
  · rcases List.mem_cons.mp hp with rfl | hp
    · exact Nat.ne_of_gt d6
    rcases List.mem_cons.mp hp with rfl | hp
    · exact hnI (82, tabObj tb) (.tail _ (.head _))
    rcases List.mem_cons.mp hp with rfl | hp
    · exact hnI (65, tabObj t65) (.tail _ (.tail _ (.head _)))
    rcases List.mem_cons.mp hp with rfl | hp
    · exact Nat.ne_of_gt d2.1
    · exact hnI p (.tail _ (.tail _ (.tail _ hp)))
  · simp only [List.length_append, List.length_take, List.length_drop, List.length_cons, List.length_nil]
    lia
  · simp only [List.length_append, List.length_take, List.length_drop, List.length_cons, List.length_nil]
    lia
  · rcases List.mem_cons.mp hq with rfl | hq
    · exact d2.2.2
    · exact hr q hq
theorem tree_last {s h : Heap} {t0 : Tree} {v0 : Value} {tb : Array Value} {N0 j : Nat} {P : Prop} (b : But [82] s h) (e : h.get? 82 = some (tabObj tb)) (tab : TabH h 57 50 qualJ tb) (ht : TreeH h t0 v0) (hg : t0.good) (hd : ∀ t ∈ [t0], t.depth ≤ j) (htot : total [t0] = N0 + j) (hlen : [v0].length + 2 * j = N0) (hodd : N0 = 5 ∨ N0 = 7 ∨ N0 = 9)
    (k : But [82] s h → h.get? 82 = some (tabObj tb) → TabH h 57 50 qualJ tb → TreeH h t0 v0 → t0.good → t0.isNode → t0.depth ≤ 4 → t0.size ≤ 13 → P) : P := by
  have h1 : 1 + 2 * j = N0 := hlen
  have h2 : t0.size + 0 = N0 + j := htot
  have h3 := hd t0 (.head _)
  refine k b e tab ht hg ?_ (by lia) (by lia)
  cases t0 with
  | leaf g n v =>
    have : (Tree.leaf g n v).size = 1 := rfl
    lia
  | node a b c => trivial
theorem tree_go : ∀ (w : World) (dp un : Nat) (gd : Option (List Code)) (A₀ : Around) (base h₀ : Heap) (outer : List Env) (env : Env) (L : Addr) (m : Str → Option Value) (s : Shared) (p : Program) (loose : List Str) (mean : ExcName → Option Value) (mg mb : Str → Option Value),
    (hd.heap_39 w.params).In h₀ → Below A₀ base outer h₀ → Fr h₀ L s.heap m → Top p loose mean mg mb h₀ → env.frame = some L → env.scope.kind = .function → CodeHd h₀ 86 82 → dp + 20 < recursionLimit → un + 200 < cLine →
    ∀ (r : Addr) (its : Array Value) (nr : Nat) (t65 t82 : Array Value) (R : Result → Shared → Prop), News h₀ L s.heap [(82, tabObj t82), (65, tabObj t65)] → s.heap.get? r = some (listOf its nr) → r ∉ List.map (·.1) [((82 : Addr), tabObj t82), (65, tabObj t65)] → RowInts its.toList → TabH s.heap 57 50 qualJ t82 →
    (∀ h' t' v tb (t : Tree), But [82] s.heap h' → h'.get? 82 = some (tabObj tb) → TabH h' 57 50 qualJ tb → TreeH h' t v → t.good → t.isNode → t.depth ≤ 4 → t.size ≤ 13 → R (.ok (.ret v)) { s with heap := h', toks := t' }) →
    codeAny (model PySem.Challenge.rw_kl0472_01.row.prog w) ⟨none, dp, some (env :: outer), gd, un⟩ (.call (.ref 140) ⟨[.ref r], []⟩) R s := by
  k_fill
  intro w dp un gd A₀ base h₀ outer env L m s p loose mean mg mb X B F T0 hf hke hcd hroom hun r its nr t65 t82 R N hr hrN hrow htab k
  have hroom0 : dp < recursionLimit := by lia
  k_dflt (refine' code_mine (K := hd.heap_39 w.params) ?k1 ?k2 ?k3 ?k4 ?k5 ?kA ?kF ?kK ?k6 ?k7 ?k8 ?k9 ?kB ?_ ?c2 ?c3 ?c4 ?c5; (case kA => exact rfl); (case kF => exact hf); (case kK => exact hke); (case k1 => k_asm); (case k2 => k_asm); (case k3 => k_asm); (case k4 => k_asm); (case k5 => k_asm); (case k6 => k_is); (case k7 => k_is); (case k8 => exact hroom0); (case k9 => first | exact BindsTo.of_eq rfl | exact binds_K (by k_in) rfl (by k_is) rfl rfl rfl); (case c5 => decide); (case kB => exact locs rfl); (case c2 => exact rfl); (case c3 => exact rfl); (case c4 => exact rfl); k_whole; intro g' L' h' kp st F' N' B' X' T'; (try dsimp only); (try k_fold))
  have kC : CodeHd g' 86 82 := hcd.keeps st
  have kT : TabN g' 57 50 qualJ [] t82 := TabN.ofH htab kp (by intro p hp; rcases List.mem_cons.mp hp with rfl | hp; exact Nat.le_refl _; rcases List.mem_cons.mp hp with rfl | hp; exact (by decide : 65 ≤ 82); cases hp)
  have hl : g'.IsList r its := ⟨_, kp _ _ hrN hr, rfl, _, rfl⟩
  have hsz : its.size ≤ 9 := by
    have := hrow.1
    rw [Array.length_toList] at this
    lia
  k_steps
  refine halted ?_
  (with_reducible rename Fr g' _ _ _ => kF0)
  (with_reducible rename News g' _ _ _ => kN0)
  refine LCg.Assign_ListComp_U kF0 rfl (by with_unfolding_all rfl) rfl (by decide) rfl (by decide) rfl rfl rfl ?_
  k_steps
  refine halted ?_
  refine LCg.CompSrc.base rfl kF0 kN0 hl (Nat.le_trans hsz (by rw [sizeLine_eq]; decide)) ?_
  intro g1
  refine comp_J (n := its.size) (fun i ys news => ∃ tb rest, news = (82, tabObj tb) :: (65, tabObj t65) :: rest ∧ ys.length = i ∧ (∀ y ∈ ys, LeafN rest y) ∧ TabN g' 57 50 qualJ rest tb ∧ (∀ q ∈ rest, 82 < q.1)) ?turn ?fin its.size 0 [] _ (by lia) ⟨t82, [], rfl, rfl, (fun _ q => nomatch q), kT, (fun _ q => nomatch q)⟩
  case turn =>
    clear k
    rintro i v ys news I oI C oC D m₂ h tk E' hi hv ⟨tb, rest, rfl, hy, hleaf, hT, hr82⟩ hC hx F1 N1 off ne
    obtain ⟨nn, tn, rfl, hn0, hn1⟩ := hrow.2 v (by
      have := Array.mem_of_getElem? hv
      exact Array.mem_toList_iff.mpr this)
    clear kF0 kN0
    dsimp only
    k_steps
    refine halted ?_
    (with_reducible rename Fr g' _ _ _ => kF)
    (with_reducible rename News g' _ _ _ => kN)
    have hTH := hT.heap kF kN (fun q hq => .tail _ (.tail _ (.tail _ (.tail _ (.tail _ hq)))))
    have n65 : News g' L' _ [(82, tabObj tb), (65, tabObj t65)] := pick_two kN (by k_mem) (by k_mem)
    refine wpAny_call (leaf_go w (dp + 1) _ gd _ _ g' _ _ _ _ _ _ _ _ _ _ X' B' kF T' rfl rfl kC (by lia) (by show un + 3 + 100 < _; lia) nn _ t65 tb _ hn0 hn1 n65 hTH ?_)
    intro h2 t2 v2 tb2 b2 e2 tab2 nt2 leaf2 fresh2
    obtain ⟨rest', F2, N2, off2, sub2, lf2, tn2, r82⟩ := leaf_step kF kN off b2 e2 tab2 nt2 leaf2 fresh2 hT hr82
    exact ⟨h2, _, _, rfl, F2, N2, off2, .inl hl, tb2, rest', rfl, by rw [List.length_append, hy]; rfl, fun y hy2 => by
      rcases List.mem_append.mp hy2 with hy2 | hy2
      · exact (hleaf y hy2).mono sub2
      · rw [List.mem_singleton.mp hy2]; exact lf2, tn2, r82⟩
  case fin =>
    rintro ys news ⟨tb, rest, rfl, hy, hleaf, hT, hr82⟩
    unfold LCg.FinA
    intro D h1 tk1 F1 N1 o1
    have hodd : its.size = 5 ∨ its.size = 7 ∨ its.size = 9 := by
      have := hrow.1
      rw [Array.length_toList] at this
      exact this
    clear kF0 kN0
    dsimp only
    k_steps
    refine halted ?_
    (with_reducible rename Fr g' _ _ _ => kF)
    (with_reducible rename News g' _ _ _ => kN)
    obtain ⟨trs0, th1, th2, th3⟩ := leaves_things hleaf
    refine for_name (h₀ := g') (l := r) (items := its) (TJ g' t65 its.size) rfl rfl rfl hl kF kN ?init ?step ?done ?he
    case he => k_steps
    case init => exact ⟨ys, _, tb, rest, D, trs0, 0, rfl, rfl, th1, th2, by lia, by lia, .inl rfl, hT, hr82⟩
    case step =>
      clear k
      rintro i v m₁ nx h2 tk2 I io Q2 hi ⟨ts, n, tb, rest, th, trs, j, rfl, hm, hts, hd, htot, hlen, hj, hT2, hr82⟩ hnI hlI F2 N2
      obtain ⟨nn, tn, rfl, hn0, hn1⟩ := hrow.2 v (by
        have := Array.mem_of_getElem? hi
        exact Array.mem_toList_iff.mpr this)
      have F2 := fr_if F2 (y := Str.ofString "things") (by rw [if_neg (by decide)]; exact hm)
      clear kF kN
      dsimp only
      k_steps
      · (with_reducible rename Fr g' _ _ _ => kF)
        (with_reducible rename News g' _ _ _ => kN)
        exact tree_turn kF kN (by assumption) rfl (ltN (by lia)) ⟨ltN (by lia), ltN (by lia), ltN (by lia)⟩ hts hd htot hlen hj hT2 hr82 hnI
      · (with_reducible rename Fr g' _ _ _ => kF)
        (with_reducible rename News g' _ _ _ => kN)
        exact turn_end _ kF kN (.head _) (fun p hp => .tail _ hp) hnI ⟨ts, n, tb, rest, th, trs, j, rfl, rfl, hts, hd, htot, hlen, .inr (by lia), hT2, hr82⟩
    case done =>
      rintro h2 tk2 m2 nx F2 N2 ⟨ts, n, tb, rest, th, trs, j, rfl, hm, hts, hd, htot, hlen, hj, hT2, hr82⟩
      have F2 := fr_if F2 hm
      clear kF kN
      dsimp only
      obtain ⟨v0, rfl⟩ : ∃ v0, ts = [v0] := by
        have h1 : ts.length = 1 := by lia
        exact List.length_eq_one_iff.mp h1
      cases hts with
      | cons hx hr =>
        cases hr
        k_steps
        (with_reducible rename Fr g' _ _ _ => kF)
        (with_reducible rename News g' _ _ _ => kN)
        have hN2 : News g' L' _ _ := fun q hq => kN q (.tail _ (.tail _ (.tail _ hq)))
        (try dsimp only)
        exact tree_last (fun b o hb => but_end82 N kp kF kN (.tail _ (.tail _ (.head _))) b o hb) (news_at kN (.tail _ (.head _))) (hT2.heap kF kN fun q hq => .tail _ (.tail _ (.tail _ hq))) (hx.1.heap hN2) hx.2 hd htot hlen hodd (k _ _ _ _ _)

end
section
/-- the lists as plain data -/
noncomputable def wordD (w : Wd) : PyData := .tuple [.str w.1, match w.2 with | none => .none | some x => .str x]
noncomputable def rowD (ws : List Wd) : PyData := .list (ws.map wordD)
noncomputable def listsD (gs : List (List Wd)) : PyData := .list (gs.map rowD)
/-- all signs of the words are signs -/
noncomputable def WdOk (w : Wd) : Prop := SeqAt.shaped (.str w.1) = true ∧ ∀ x, w.2 = some x → SeqAt.shaped (.str x) = true
theorem reads_all {α : Type} {h : Heap} {R : Value → α → Prop} {f : α → PyData} (k : ∀ v a, R v a → ∃ as, Reads h v (f a) as) : ∀ {vs : List Value} {l : List α}, All2 R vs l → ∃ as, ReadsAll h vs (l.map f) as
  | _, _, .nil => ⟨_, .nil⟩
  | _, _, .cons x r => by
    obtain ⟨as, h1⟩ := k _ _ x
    obtain ⟨bs, h2⟩ := reads_all k r
    exact ⟨_, .cons h1 h2⟩
theorem item_reads {h : Heap} (v : Value) (w : Wd) (x : ItemH h v w) : ∃ as, Reads h v (wordD w) as := by
  obtain ⟨a, t, v2, rfl, h1, h2, h3⟩ := x
  obtain ⟨wn, wv⟩ := w
  cases wv with
  | none =>
    cases h3
    exact ⟨_, .tuple h2 rfl rfl (.cons (.str _ _) (.cons .none .nil))⟩
  | some y =>
    obtain ⟨t', rfl⟩ := h3
    exact ⟨_, .tuple h2 rfl rfl (.cons (.str _ _) (.cons (.str _ _) .nil))⟩
theorem row_reads {h : Heap} (v : Value) (ws : List Wd) (x : RowH h v ws) : ∃ as, Reads h v (rowD ws) as := by
  obtain ⟨a, its, n, rfl, h1, h2, h3⟩ := x
  obtain ⟨as, h4⟩ := reads_all item_reads h3
  exact ⟨_, .list h2 rfl rfl h4⟩
theorem lists_reads {h : Heap} {v : Value} {gs : List (List Wd)} (x : RowsH h v gs) : ∃ as, Reads h v (listsD gs) as := by
  obtain ⟨a, its, n, rfl, h1, h2, h3⟩ := x
  obtain ⟨as, h4⟩ := reads_all row_reads h3
  exact ⟨_, .list h2 rfl rfl h4⟩
theorem lay_all {α : Type} {f : α → PyData} : ∀ {l : List α}, (∀ a ∈ l, (f a).canLay0 = true) → PyData.canLayAll0 (l.map f) = true
  | [], _ => rfl
  | a :: r, h => by
    rw [List.map_cons, PyData.canLayAll0, h a (.head _), lay_all fun b hb => h b (.tail _ hb)]
    rfl
theorem depth_all {α : Type} {f : α → PyData} {d : Nat} : ∀ {l : List α}, (∀ a ∈ l, (f a).depth ≤ d) → PyData.depthAll (l.map f) ≤ d
  | [], _ => Nat.zero_le _
  | a :: r, h => by
    rw [List.map_cons, PyData.depthAll]
    have h1 := h a (.head _)
    have h2 := depth_all (l := r) fun b hb => h b (.tail _ hb)
    lia
theorem word_lay {w : Wd} (h : WdOk w) : (wordD w).canLay0 = true := by
  obtain ⟨wn, wv⟩ := w
  obtain ⟨h1, h2⟩ := h
  have h1' := SeqAt.canLay_of_shaped h1
  cases wv with
  | none =>
    show (PyData.canLayAll0 [.str wn, .none]) = true
    simp only [PyData.canLayAll0]
    rw [h1']; rfl
  | some y =>
    have h2' := SeqAt.canLay_of_shaped (h2 y rfl)
    show (PyData.canLayAll0 [.str wn, .str y]) = true
    simp only [PyData.canLayAll0]
    rw [h1', h2']; rfl
theorem word_depth (w : Wd) : (wordD w).depth ≤ 1 := by
  obtain ⟨wn, wv⟩ := w
  cases wv with
  | none => exact Nat.le_refl _
  | some y => exact Nat.le_refl _
theorem lists_shaped {gs : List (List Wd)} (h : ∀ g ∈ gs, ∀ w ∈ g, WdOk w) : (listsD gs).canLay0 = true ∧ (listsD gs).depth ≤ 3 := by
  constructor
  · exact lay_all fun g hg => lay_all fun w hw => word_lay (h g hg w hw)
  · have := depth_all (f := rowD) (d := 2) (l := gs) fun g _ => by
      have := depth_all (f := wordD) (d := 1) (l := g) fun w _ => word_depth w
      show PyData.depthAll (g.map wordD) + 1 ≤ 2
      lia
    show PyData.depthAll (gs.map rowD) + 1 ≤ 3
    lia
section
variable {prog : Program} {w : World} {A : Around} {E : Value → Shared → Prop} {s : Shared} {a b : Value} {gs : List (List Wd)} {Q : Value → Shared → Prop}
theorem eq_lists (ha : RowsH s.heap a gs) (hb : RowsH s.heap b gs) (ok : ∀ g ∈ gs, ∀ w ∈ g, WdOk w) (hu : A.units + 10 < cLine) (h : Q (.bool true) s) : wpAny (model prog w) A (compareOp .Eq a b) Q E s := by
  obtain ⟨as, ra⟩ := lists_reads ha
  obtain ⟨bs, rb⟩ := lists_reads hb
  obtain ⟨h1, h2⟩ := lists_shaped ok
  refine SeqAt.compareEq_reads ra rb h1 h1 (by lia) ?_
  rw [SeqAt.eqv_refl _ h1]
  exact h
theorem ne_lists (ha : RowsH s.heap a gs) (hb : RowsH s.heap b gs) (ok : ∀ g ∈ gs, ∀ w ∈ g, WdOk w) (hu : A.units + 10 < cLine) (h : Q (.bool false) s) : wpAny (model prog w) A (compareOp .NotEq a b) Q E s := by
  obtain ⟨as, ra⟩ := lists_reads ha
  obtain ⟨bs, rb⟩ := lists_reads hb
  obtain ⟨h1, h2⟩ := lists_shaped ok
  refine SeqAt.compareNe_reads ra rb h1 h1 (by lia) ?_
  rw [SeqAt.eqv_refl _ h1]
  exact h
end

end
section
noncomputable def LT.neat : LT → Prop
  | .leaf n v => n.length ≤ 100 ∧ (∀ x ∈ n, x < 128) ∧ ∀ w, v = some w → w.length ≤ 10 ∧ ∀ c ∈ w, c ∈ signs10
  | .node a b d => a.neat ∧ b.neat ∧ d.neat
theorem neat_fine : ∀ {t : LT}, t.neat → t.fine
  | .leaf n v, h => ⟨Nat.le_trans h.1 (by decide), fun w q => ⟨Nat.le_trans (h.2.2 w q).1 (by decide), (h.2.2 w q).2⟩⟩
  | .node a b d, h => ⟨neat_fine h.1, neat_fine h.2.1, neat_fine h.2.2⟩
theorem leaf_len {n : List Nat} {v : Option (List Nat)} (h : (LT.leaf n v).neat) : (leafText n v).length ≤ 130 := by
  have h1 := h.1
  cases v with
  | none => show n.length ≤ _; lia
  | some w =>
    have h2 := (h.2.2 w rfl).1
    have h3 := esc_len w
    show (if bareOk w then n ++ 61 :: w else n ++ 61 :: 34 :: (esc w ++ [34])).length ≤ 130
    split
    · simp only [List.length_append, List.length_cons]; lia
    · simp only [List.length_append, List.length_cons, List.length_nil]; lia
theorem text_len : ∀ {t : LT}, t.neat → t.text.length ≤ 200 * t.size
  | .leaf n v, h => by
    have := leaf_len h
    show (leafText n v).length ≤ 200 * 1
    lia
  | .node a b d, h => by
    have h1 := text_len h.1
    have h2 := text_len h.2.1
    have h3 := text_len h.2.2
    show (a.text ++ (32 :: 40 :: (b.text ++ (44 :: 32 :: 108 :: 105 :: 110 :: 101 :: 32 :: (d.text ++ [41]))))).length ≤ 200 * (1 + a.size + b.size + d.size)
    simp only [List.length_append, List.length_cons, List.length_nil]
    lia
/-- a tree of good leaves, as codes -/
theorem good_lt : ∀ t : Tree, t.good → ∃ lt : LT, lt.good ∧ lt.neat ∧ lt.depth = t.depth ∧ lt.size = t.size ∧ t.shown = S lt.text ∧ t.small ∧ ∀ X h v, TreeH h t v → (∀ x ∈ X, h.get? x = none ∨ x ∈ ([65, 82] : List Addr)) → TreeL X h lt v := by
  intro t
  induction t with
  | leaf g name val =>
    intro h
    obtain ⟨n, v, rfl, rfl, h1, h2, h3, h4, h5, h6⟩ := h
    refine ⟨.leaf n v, ⟨h3, fun x hx => (h5 x hx).1, fun w q => Nat.le_trans (h6 w q).1 (by decide)⟩, ⟨h4, fun x hx => (h5 x hx).2, h6⟩, rfl, rfl, h1, h2, ?_⟩
    rintro X hh vv ⟨a, gv, t, v2, rfl, k1, k2, k3, k4⟩ hX
    have k0 : a ∉ X := fun q => (hX a q).elim (fun z => by rw [z] at k2; cases k2) k1
    exact ⟨a, gv, t, v2, rfl, k0, k2, k4⟩
  | node a b c ia ib ic =>
    intro h
    obtain ⟨la, a1, a2, a3, a4, a5, a6, a7⟩ := ia h.1
    obtain ⟨lb, b1, b2, b3, b4, b5, b6, b7⟩ := ib h.2.1
    obtain ⟨lc, c1, c2, c3, c4, c5, c6, c7⟩ := ic h.2.2
    refine ⟨.node la lb lc, ⟨a1, b1, c1⟩, ⟨a2, b2, c2⟩, ?_, ?_, ?_, ⟨a6, b6, c6⟩, ?_⟩
    · show 1 + max la.depth (max lb.depth lc.depth) = 1 + max a.depth (max b.depth c.depth)
      rw [a3, b3, c3]
    · show 1 + la.size + lb.size + lc.size = 1 + a.size + b.size + c.size
      rw [a4, b4, c4]
    · show Str.empty ++ a.shown ++ Str.ofString " (" ++ b.shown ++ Str.ofString ", line " ++ c.shown ++ Str.ofString ")" = _
      have e1 : Str.ofString " (" = S [32, 40] := str_of_list (by decide)
      have e2 : Str.ofString ", line " = S [44, 32, 108, 105, 110, 101, 32] := str_of_list (by decide)
      have e3 : Str.ofString ")" = S [41] := str_of_list (by decide)
      have e0 : Str.empty = S [] := str_of_list (by decide)
      rw [a5, b5, c5, e1, e2, e3, e0, S_app, S_app, S_app, S_app, S_app, S_app]
      simp [LT.text]
    · rintro X hh v ⟨x, va, vb, vc, n, rfl, k1, k2, k3, k4, k5⟩ hX
      have k0 : x ∉ X := fun q => (hX x q).elim (fun z => by rw [z] at k2; cases k2) k1
      exact ⟨x, va, vb, vc, n, rfl, k0, k2, a7 X hh va k3 hX, b7 X hh vb k4 hX, c7 X hh vc k5 hX⟩
/-- a word that is laid -/
noncomputable def NeatW (w : Wl) : Prop := GoodW w ∧ w.1.length ≤ 200 ∧ (∀ x ∈ w.1, x < 128) ∧ ∀ v, w.2 = some v → v.length ≤ 200 ∧ ∀ x ∈ v, x < 128
noncomputable def AllNeat (st : List (List Wl) × List Wl) : Prop := (∀ g ∈ st.1, g ≠ [] ∧ ∀ w ∈ g, NeatW w) ∧ ∀ w ∈ st.2, NeatW w
theorem ten_small : ∀ c ∈ signs10, c < 128 := by decide
theorem closes_len (c : Nat) : (closes c).length = c := List.length_replicate
theorem closes_small (c : Nat) : ∀ x ∈ closes c, x < 128 := fun x hx => by rw [List.eq_of_mem_replicate hx]; decide
theorem leafWords_neat {f n : List Nat} {v : Option (List Nat)} {c : Nat} (hg : (LT.leaf n v).good) (hn : (LT.leaf n v).neat) (hf : ∀ x ∈ f, tokc x = true ∧ x < 128) (hfl : f.length ≤ 1) (hc : c ≤ 50) : ∀ w ∈ leafWords f c n v, NeatW w := by
  obtain ⟨g1, g2, g3⟩ := hg
  obtain ⟨n1, n2, n3⟩ := hn
  have ftok : ∀ x ∈ f ++ n, tokc x = true ∧ x < 128 := fun x hx => (List.mem_append.mp hx).elim (hf x) fun q => ⟨g2 x q, n2 x q⟩
  have fne : f ++ n ≠ [] := by simp [g1]
  have flen : (f ++ n).length ≤ 101 := by rw [List.length_append]; lia
  have base : ∀ val : Option (List Nat), (∀ w, val = some w → w.length ≤ 200 ∧ ∀ x ∈ w, x < 128) → NeatW (f ++ n, val) := fun val hval =>
    ⟨⟨fne, fun x hx => (ftok x hx).1, fun w q => Nat.le_trans (hval w q).1 (by decide)⟩, by show (f ++ n).length ≤ 200; lia, fun x hx => (ftok x hx).2, hval⟩
  have lc := closes_len c
  cases v with
  | none =>
    intro w hw
    have e : w = (f ++ n ++ closes c, none) := List.mem_singleton.mp hw
    subst e
    refine ⟨⟨by simp [g1], fun x hx => ?_, fun w q => nomatch q⟩, ?_, fun x hx => ?_, fun w q => nomatch q⟩
    · rcases List.mem_append.mp hx with hx | hx
      · exact (ftok x hx).1
      · exact closes_tok c x hx
    · show (f ++ n ++ closes c).length ≤ 200
      rw [List.length_append, lc]; lia
    · rcases List.mem_append.mp hx with hx | hx
      · exact (ftok x hx).2
      · exact closes_small c x hx
  | some vl =>
    obtain ⟨v1, v2⟩ := n3 vl rfl
    have vsm : ∀ x ∈ vl, x < 128 := fun x hx => ten_small x (v2 x hx)
    have b1 : NeatW (f ++ n, some vl) := base _ fun w q => by cases q; exact ⟨by lia, vsm⟩
    intro w hw
    by_cases q : bareOk vl = true
    · have e : leafWords f c n (some vl) = [(f ++ n, some (vl ++ closes c))] := by simp [leafWords, q]
      rw [e] at hw
      rw [List.mem_singleton.mp hw]
      exact base _ fun w q => by
        cases q
        exact ⟨by rw [List.length_append, lc]; lia, fun x hx => (List.mem_append.mp hx).elim (vsm x) (closes_small c x)⟩
    · have q0 : bareOk vl = false := by simpa using q
      by_cases hc0 : 0 < c
      · have e : leafWords f c n (some vl) = [(f ++ n, some vl), (closes c, none)] := by simp [leafWords, q0, hc0]
        rw [e] at hw
        rcases List.mem_cons.mp hw with rfl | hw
        · exact b1
        · rw [List.mem_singleton.mp hw]
          refine ⟨⟨fun q => ?_, closes_tok c, fun w q => nomatch q⟩, by show (closes c).length ≤ 200; lia, closes_small c, fun w q => nomatch q⟩
          have : (closes c).length = 0 := by rw [show closes c = [] from q]; rfl
          lia
      · have e : leafWords f c n (some vl) = [(f ++ n, some vl)] := by simp [leafWords, q0, hc0]
        rw [e] at hw
        rw [List.mem_singleton.mp hw]
        exact b1
theorem lineW_neat : NeatW lineW := ⟨⟨by decide, by decide, fun w q => nomatch q⟩, by decide, by decide, fun w q => nomatch q⟩
theorem lay_neat : ∀ (t : LT) (f : List Nat) (c : Nat) (st : List (List Wl) × List Wl), t.good → t.neat → (∀ x ∈ f, tokc x = true ∧ x < 128) → f.length ≤ 1 → c + t.depth ≤ 50 → AllNeat st → AllNeat (lay t f c st)
  | .leaf n v, f, c, (gs, ws), hg, hn, hf, hl, hc, hs => ⟨hs.1, fun w hw => (List.mem_append.mp hw).elim (hs.2 w) (leafWords_neat hg hn hf hl (by lia) w)⟩
  | .node a b d, f, c, st, hg, hn, hf, hl, hc, hs => by
    have hd1 : a.depth + 1 ≤ (LT.node a b d).depth := by show _ ≤ 1 + max a.depth (max b.depth d.depth); lia
    have hd2 : b.depth + 1 ≤ (LT.node a b d).depth := by show _ ≤ 1 + max a.depth (max b.depth d.depth); lia
    have hd3 : d.depth + 1 ≤ (LT.node a b d).depth := by show _ ≤ 1 + max a.depth (max b.depth d.depth); lia
    have h1 := lay_neat a f 0 st hg.1 hn.1 hf hl (by lia) hs
    have h2 := lay_neat b [40] 0 _ hg.2.1 hn.2.1 (by decide) (by decide) (by lia) h1
    refine lay_neat d [] (c + 1) _ hg.2.2 hn.2.2 (fun _ q => nomatch q) (by decide) (by lia) ⟨fun g hgm => ?_, fun w hw => ?_⟩
    · rcases List.mem_append.mp hgm with q | q
      · exact h2.1 g q
      · rw [List.mem_singleton.mp q]
        exact ⟨lay_ws b [40] 0 _ hg.2.1, h2.2⟩
    · rw [List.mem_singleton.mp hw]; exact lineW_neat
noncomputable def wordsOf (ls : List (List Wl)) : Nat := (ls.map List.length).sum
theorem lay_words : ∀ (t : LT) (f : List Nat) (c : Nat) (st : List (List Wl) × List Wl), wordsOf (lay t f c st).1 + (lay t f c st).2.length ≤ wordsOf st.1 + st.2.length + 3 * t.size
  | .leaf n v, f, c, (gs, ws) => by
    show wordsOf gs + (ws ++ leafWords f c n v).length ≤ wordsOf gs + ws.length + 3
    rw [List.length_append]
    cases v with
    | none => simp [leafWords]; lia
    | some w =>
      by_cases q : bareOk w = true
      · simp [leafWords, q]; lia
      · by_cases q2 : 0 < c <;> simp [leafWords, q, q2] <;> lia
  | .node a b d, f, c, st => by
    have h1 := lay_words a f 0 st
    have h2 := lay_words b [40] 0 (lay a f 0 st)
    have h3 := lay_words d [] (c + 1) ((lay b [40] 0 (lay a f 0 st)).1 ++ [(lay b [40] 0 (lay a f 0 st)).2], [lineW])
    have e : lay (.node a b d) f c st = lay d [] (c + 1) ((lay b [40] 0 (lay a f 0 st)).1 ++ [(lay b [40] 0 (lay a f 0 st)).2], [lineW]) := rfl
    have e2 : (LT.node a b d).size = 1 + a.size + b.size + d.size := rfl
    have e3 : wordsOf ((lay b [40] 0 (lay a f 0 st)).1 ++ [(lay b [40] 0 (lay a f 0 st)).2]) = wordsOf (lay b [40] 0 (lay a f 0 st)).1 + (lay b [40] 0 (lay a f 0 st)).2.length := by
      unfold wordsOf
      rw [List.map_append, List.sum_append]
      simp
    rw [e, e2]
    dsimp only at h3
    rw [e3] at h3
    have e4 : ([lineW] : List Wl).length = 1 := rfl
    rw [e4] at h3
    lia
theorem attr_len {w : Wl} (h : NeatW w) : (attrText w).length ≤ 698 := by
  obtain ⟨n, val⟩ := w
  obtain ⟨_, h1, _, h2⟩ := h
  dsimp only at h1
  cases val with
  | none => show n.length ≤ _; lia
  | some v =>
    have h3 := (h2 v rfl).1
    have h4 := esc_len v
    show (if jOk v then n ++ 61 :: v else n ++ 61 :: 34 :: (esc v ++ [34])).length ≤ _
    split
    · simp only [List.length_append, List.length_cons]; lia
    · simp only [List.length_append, List.length_cons, List.length_nil]; lia
theorem row_len : ∀ {ws : List Wl}, (∀ w ∈ ws, NeatW w) → (rowText ws).length ≤ 700 * ws.length
  | [], _ => Nat.le_refl _
  | [w], h => by
    have := attr_len (h w (.head _))
    show (attrText w).length ≤ 700 * 1
    lia
  | w :: w2 :: l, h => by
    have h1 := attr_len (h w (.head _))
    have h2 := row_len (ws := w2 :: l) fun x hx => h x (.tail _ hx)
    show (attrText w ++ 59 :: 32 :: rowText (w2 :: l)).length ≤ 700 * ((w2 :: l).length + 1)
    rw [List.length_append, List.length_cons (a := 59), List.length_cons (a := 32)]
    lia
theorem all_len : ∀ {ls : List (List Wl)}, (∀ g ∈ ls, g ≠ [] ∧ ∀ w ∈ g, NeatW w) → (allText ls).length ≤ 702 * wordsOf ls
  | [], _ => Nat.le_refl _
  | [g], h => by
    have h1 := row_len (h g (.head _)).2
    show (rowText g).length ≤ 702 * (g.length + 0)
    lia
  | g :: g2 :: l, h => by
    have h1 := row_len (h g (.head _)).2
    have h2 := all_len (ls := g2 :: l) fun x hx => h x (.tail _ hx)
    have h3 : 0 < g.length := List.length_pos_iff.mpr (h g (.head _)).1
    show (rowText g ++ 44 :: 32 :: allText (g2 :: l)).length ≤ 702 * (g.length + wordsOf (g2 :: l))
    rw [List.length_append, List.length_cons (a := 44), List.length_cons (a := 32)]
    lia
theorem shaped_small {l : List Nat} (h : ∀ x ∈ l, x < 128) : SeqAt.shaped (.str (S l)) = true := by
  unfold SeqAt.shaped
  rw [Bool.and_eq_true]
  refine ⟨?_, decide_eq_true (show 0 ≤ 64 from Nat.zero_le _)⟩
  rw [PyData.canLay0]
  unfold PySem.PyData.strOk
  rw [Array.all_eq_true']
  intro x hx
  have hx' : x ∈ l := by simpa using hx
  have := h x hx'
  exact decide_eq_true (by lia)
/-- the plain law -/
theorem plain {P : Prop} (t : Tree) (hg : t.good) (hd : t.depth ≤ 4) (hs : t.size ≤ 13) (k : ∀ (lt : LT) (ls : List (List Wl)), lt.good → lt.neat → lt.depth ≤ 4 → lt.size ≤ 13 → (∀ X h v, TreeH h t v → (∀ x ∈ X, h.get? x = none ∨ x ∈ ([65, 82] : List Addr)) → TreeL X h lt v) → ls = (lay lt [] 0 ([], [])).1 ++ [(lay lt [] 0 ([], [])).2] →
    t.shown.length ≤ 100000 → t.small → Run t.shown [] [] (ls.map (·.map toW)) → JoinText (ls.map (·.map toW)) (S (allText ls)) → (S (allText ls)).cps.size ≤ 100000 → Run (S (allText ls)) [] [] (ls.map (·.map toW)) → (∀ g ∈ ls.map (·.map toW), ∀ w ∈ g, WdOk w) → P) : P := by
  obtain ⟨lt, g1, g2, g3, g4, g5, g6, g7⟩ := good_lt t hg
  have hnt : AllNeat (lay lt [] 0 ([], [])) := lay_neat lt [] 0 ([], []) g1 g2 (fun _ q => nomatch q) (by decide) (by lia) ⟨(fun _ q => nomatch q), (fun _ q => nomatch q)⟩
  have hne := lay_ws lt [] 0 ([], []) g1
  have hcw := lay_words lt [] 0 ([], [])
  have htl := text_len g2
  obtain ⟨ls, hls⟩ : ∃ ls, ls = (lay lt [] 0 ([], [])).1 ++ [(lay lt [] 0 ([], [])).2] := ⟨_, rfl⟩
  have hneat : ∀ g ∈ ls, g ≠ [] ∧ ∀ w ∈ g, NeatW w := by
    intro g hgm
    rw [hls] at hgm
    rcases List.mem_append.mp hgm with q | q
    · exact hnt.1 g q
    · rw [List.mem_singleton.mp q]; exact ⟨hne, hnt.2⟩
  have hcount : wordsOf ls ≤ 39 := by
    have e3 : wordsOf ls = wordsOf (lay lt [] 0 ([], [])).1 + (lay lt [] 0 ([], [])).2.length := by
      rw [hls]
      unfold wordsOf
      rw [List.map_append, List.sum_append]
      simp
    have e0 : wordsOf ([] : List (List Wl)) + ([] : List Wl).length = 0 := rfl
    dsimp only at hcw
    lia
  have hlen := all_len hneat
  have hlsl : ls.length ≤ wordsOf ls := by
    have : ∀ l : List (List Wl), (∀ g ∈ l, g ≠ []) → l.length ≤ wordsOf l := by
      intro l
      induction l with
      | nil => intro _; exact Nat.le_refl _
      | cons a r ih =>
        intro h
        have h1 := ih fun g hg => h g (.tail _ hg)
        have h2 : 0 < a.length := List.length_pos_iff.mpr (h a (.head _))
        show r.length + 1 ≤ a.length + wordsOf r
        lia
    exact this ls fun g hg => (hneat g hg).1
  have hlne : ls ≠ [] := by rw [hls]; simp
  refine k lt ls g1 g2 (by lia) (by lia) g7 hls ?_ g6 ?_ ?_ ?_ ?_ ?_
  · rw [g5]
    show (S lt.text).cps.size ≤ _
    rw [S_size]; lia
  · rw [g5]
    have := run_tree lt [] [] 0 [] ([], []) (ls.map (·.map toW)) g1 (fun _ q => nomatch q) (fun _ q => nomatch q) trivial (by simp [closes]; lia) (by
      have e : ls.map (·.map toW) = shut ((lay lt [] 0 ([], [])).2.map toW) ((lay lt [] 0 ([], [])).1.map (·.map toW)) := by
        unfold shut
        rw [if_neg (by simp [hne]), hls, List.map_append]
        rfl
      rw [e]
      exact run_done)
    simpa [closes] using this
  · exact join_text ls (fun g hg => ⟨(hneat g hg).1, fun w hw => ⟨((hneat g hg).2 w hw).1, Nat.le_trans ((hneat g hg).2 w hw).2.1 (by decide)⟩⟩) (by lia) (by lia)
  · rw [S_size]; lia
  · have := run_all ls [] [] hlne (fun g hg => ⟨(hneat g hg).1, fun w hw => ((hneat g hg).2 w hw).1⟩) (fun _ q => nomatch q) (by simp; lia)
    simpa using this
  · intro g hgm w hw
    obtain ⟨g0, h0, rfl⟩ := List.mem_map.mp hgm
    obtain ⟨w0, h1, rfl⟩ := List.mem_map.mp hw
    have hn := (hneat g0 h0).2 w0 h1
    refine ⟨shaped_small hn.2.2.1, fun x hx => ?_⟩
    obtain ⟨v, hv, rfl⟩ := Option.map_eq_some_iff.mp hx
    exact shaped_small (hn.2.2.2 v hv).2

end
section
/-- lists, tuples and records stay, but for the two tables -/
noncomputable def Mv (h h' : Heap) : Prop := ∀ b o, b ∉ ([65, 82] : List Addr) → ((∃ its n, o.data = .seq its n) ∨ ∃ vs, o.data = .fields vs) → h.get? b = some o → h'.get? b = some o
theorem Mv.trans {h h' h'' : Heap} (a : Mv h h') (b : Mv h' h'') : Mv h h'' := fun x o n d e => b x o n d (a x o n d e)
theorem Mv.of {h h' : Heap} {X : List Addr} (a : But X h h') (hX : ∀ x ∈ X, x ∈ ([65, 82] : List Addr)) : Mv h h' := fun x o n _ e => a x o (fun q => n (hX x q)) e
theorem Mv.stays {h h' : Heap} (a : Stays h h') : Mv h h' := fun x o _ _ e => a x o e
theorem Mv.frame {h h' : Heap} {L : Addr} {m : Str → Option Value} (N : h.Ns L m) (a : ∀ b o, b ≠ L → h.get? b = some o → h'.get? b = some o) : Mv h h' := fun x o _ d e => a x o (by
  rcases d with ⟨its, n, d⟩ | ⟨vs, d⟩
  · exact frame_not N e d
  · exact frame_not2 N e d) e
theorem TreeH.mv {h h' : Heap} (k : Mv h h') : ∀ {t : Tree} {v : Value}, TreeH h t v → TreeH h' t v := by
  intro t
  induction t with
  | leaf _ _ _ =>
    rintro v ⟨a, gv, t, vv, h1, h2, h3, h4⟩
    exact ⟨a, gv, t, vv, h1, h2, k _ _ h2 (.inl ⟨_, _, rfl⟩) h3, h4⟩
  | node _ _ _ ia ib ic =>
    rintro v ⟨x, va, vb, vc, n, h1, h2, h3, h4, h5, h6⟩
    exact ⟨x, va, vb, vc, n, h1, h2, k _ _ h2 (.inl ⟨_, _, rfl⟩) h3, ia h4, ib h5, ic h6⟩
theorem TreeL.mv {X : List Addr} {h h' : Heap} (hX : ∀ x ∈ ([65, 82] : List Addr), x ∈ X) (k : Mv h h') : ∀ {t : LT} {v : Value}, TreeL X h t v → TreeL X h' t v := by
  intro t
  induction t with
  | leaf _ _ =>
    rintro v ⟨a, gv, t, vv, h1, h2, h3, h4⟩
    exact ⟨a, gv, t, vv, h1, h2, k _ _ (fun q => h2 (hX a q)) (.inl ⟨_, _, rfl⟩) h3, h4⟩
  | node _ _ _ ia ib ic =>
    rintro v ⟨x, va, vb, vc, n, h1, h2, h3, h4, h5, h6⟩
    exact ⟨x, va, vb, vc, n, h1, h2, k _ _ (fun q => h2 (hX x q)) (.inl ⟨_, _, rfl⟩) h3, ia h4, ib h5, ic h6⟩
theorem ItemH.mv {h h' : Heap} (k : Mv h h') {v : Value} {w : Wd} (x : ItemH h v w) : ItemH h' v w := by
  obtain ⟨a, t, v2, e, h1, h2, r⟩ := x
  exact ⟨a, t, v2, e, h1, k _ _ (far h1) (.inl ⟨_, _, rfl⟩) h2, r⟩
theorem RowH.mv {h h' : Heap} (k : Mv h h') {v : Value} {w : List Wd} (x : RowH h v w) : RowH h' v w := by
  obtain ⟨a, its, n, e, h1, h2, r⟩ := x
  exact ⟨a, its, n, e, h1, k _ _ (far h1) (.inl ⟨_, _, rfl⟩) h2, forall2_mono (fun _ _ => ItemH.mv k) r⟩
theorem RowsH.mv {h h' : Heap} (k : Mv h h') {v : Value} {w : List (List Wd)} (x : RowsH h v w) : RowsH h' v w := by
  obtain ⟨a, its, n, e, h1, h2, r⟩ := x
  exact ⟨a, its, n, e, h1, k _ _ (far h1) (.inl ⟨_, _, rfl⟩) h2, forall2_mono (fun _ _ => RowH.mv k) r⟩
theorem TabH.mv {h h' : Heap} (k : Mv h h') {line col : Nat} {qual : Str} {tb : Array Value} (x : TabH h line col qual tb) : TabH h' line col qual tb := by
  rcases x with x | ⟨c', oc, vs, t, e, h1, h2, h3, h4⟩
  · exact .inl x
  · exact .inr ⟨c', oc, vs, t, e, h1, k _ _ (far h1) (.inr ⟨_, h3⟩) h2, h3, h4⟩
theorem stays_fr {g h h' : Heap} {L : Addr} {m : Str → Option Value} (F : Fr g L h m) (st : Stays h h') : Fr g L h' m := ⟨F.ns.keeps st, fun b o q => st b o (F.keep b o q), F.above⟩
theorem list_not_tab {h : Heap} {r a : Addr} {its tb : Array Value} {n : Nat} (e1 : h.get? r = some (listOf its n)) (e2 : h.get? a = some (tabObj tb)) : r ≠ a := by
  intro q
  rw [q, e2] at e1
  injection e1 with e1
  have : (tabObj tb).data = (listOf its n).data := congrArg Obj.data e1
  cases this
theorem fresh_of {g h : Heap} {L D : Addr} {rest : List (Addr × Obj)} (R4 : ∀ b o, b ∉ ([] : List Addr) → b ≠ L → h.get? b = some o → g.get? b = some o ∨ (b, o) ∈ rest) (hg : g.get? D = none) (hL : D ≠ L) (hlt : ∀ p ∈ rest, p.1 < D) : h.get? D = none := by
  cases e : h.get? D with
  | none => rfl
  | some o =>
    rcases R4 D o (fun q => nomatch q) hL e with q | q
    · rw [hg] at q; cases q
    · exact absurd (hlt _ q) (Nat.lt_irrefl _)
/-- the lists, as they are at first -/
theorem lay_start {h : Heap} {l r : Addr} {n k : Nat} (h1 : h.get? l = some (listOf #[.ref r] n)) (h2 : h.get? r = some (listOf #[] k)) (h6 : l ≠ r) (h7 : 82 < l) (h8 : 82 < r) : LayH h l r ([], []) :=
  ⟨#[.ref r], #[], n, k, [], h1, h2, rfl, .nil, .nil, h6, h7, h8⟩
theorem tree_laid {h h3 : Heap} {l r : Addr} {t : Tree} {lt : LT} {v : Value} (g7 : ∀ X h v, TreeH h t v → (∀ x ∈ X, h.get? x = none ∨ x ∈ ([65, 82] : List Addr)) → TreeL X h lt v) (ht : TreeH h t v) (hl : h.get? l = none) (hr : h.get? r = none) (mv : Mv h h3) : TreeL [l, r] h3 lt v := by
  have x := g7 [l, r, 65, 82] h v ht (fun x hx => by
    rcases List.mem_cons.mp hx with rfl | hx
    · exact .inl hl
    rcases List.mem_cons.mp hx with rfl | hx
    · exact .inl hr
    · exact .inr hx)
  exact (x.mv (fun x hx => .tail _ (.tail _ hx)) mv).away (fun a o _ hn hm => hn (by
    rcases List.mem_cons.mp hm with rfl | hm
    · exact .head _
    · rw [List.mem_singleton.mp hm]; exact .tail _ (.head _)))
/-- what stays while the lists are laid -/
theorem mv_lay {h2 h3 h4 : Heap} {l r : Addr} (hl : h2.get? l = none) (hr : h2.get? r = none) (a : Mv h2 h3) (b : But [l, r] h3 h4) : Mv h2 h4 := fun x o n d e => b x o (fun hm => by
  rcases List.mem_cons.mp hm with q | q
  · rw [q, hl] at e; cases e
  · rw [List.mem_singleton.mp q, hr] at e; cases e) (a x o n d e)
theorem nil_of {g h : Heap} {L : Addr} {m : Str → Option Value} (_ : Fr g L h m) : News g L h [] := News.nil
theorem not_two {g h : Heap} {L r a b : Addr} {x y its : Array Value} {n : Nat} (hr : h.get? r = some (listOf its n)) (N : News g L h [(a, tabObj x), (b, tabObj y)]) : r ∉ List.map (·.1) [(a, tabObj x), (b, tabObj y)] := fun hm => by
  rcases List.mem_cons.mp hm with q | q
  · exact list_not_tab hr (N _ (.head _)).1 q
  · exact list_not_tab hr (N _ (.tail _ (.head _))).1 (List.mem_singleton.mp q)
theorem node_k {h : Heap} {t : Tree} {v : Value} {P : Value → Prop} (hn : t.isNode) (x : ErrTree h t v) (k : ∀ e, ErrTree h t (.ref e) → P (.ref e)) : P v := by
  cases t with
  | leaf => exact hn.elim
  | node a b c =>
    obtain ⟨e, _, _, _, rfl, _⟩ := id x
    exact k e x
theorem in_rest {g h : Heap} {L a : Addr} {o : Obj} {rest : List (Addr × Obj)} (R4 : ∀ b o, b ∉ ([] : List Addr) → b ≠ L → h.get? b = some o → g.get? b = some o ∨ (b, o) ∈ rest) (ha : g.get? a = none) (hL : a ≠ L) (e : h.get? a = some o) : (a, o) ∈ rest :=
  (R4 a o (fun q => nomatch q) hL e).elim (fun q => by rw [ha] at q; cases q) id
theorem two_of {g h : Heap} {L : Addr} {a b : Addr × Obj} (ha : h.get? a.1 = some a.2 ∧ a.1 ≠ L ∧ g.get? a.1 = none) (hb : h.get? b.1 = some b.2 ∧ b.1 ≠ L ∧ g.get? b.1 = none) : News g L h [a, b] := fun q hq => by
  rcases List.mem_cons.mp hq with rfl | hq
  · exact ha
  · rw [List.mem_singleton.mp hq]; exact hb

end
section
theorem calm_L1 : True := by
  w_top off
  trivial
local macro_rules | `(tactic| walk_at "call ref") => `(tactic| apply halt)
local macro_rules | `(tactic| walk_at "compareOp NotEq ref ref") => `(tactic| apply halt)
local macro_rules | `(tactic| walk_at "compareOp Eq ref ref") => `(tactic| apply halt)
theorem law_holds : PySem.Challenge.rw_kl0472_01.Holds := by
  refine hd ?_
  k_go0
  all_goals (try k_fold)
  (with_reducible rename Frag.In _ _ => kX)
  (with_reducible rename Below _ _ _ _ => kB)
  (with_reducible rename News _ _ _ [(82, _), (65, _)] => kN)
  (with_reducible rename Fr _ _ _ _ => kF)
  (with_reducible rename IntsAre _ _ => kI)
  (with_reducible rename CodeHd _ (69, 65).fst _ => kC69)
  (with_reducible rename CodeHd _ (86, 82).fst _ => kC86)
  (with_reducible rename Heap.IsList (ghostOf _ _) _ _ => kL)
  (with_reducible rename ¬ _ < _ => hlen)
  (with_reducible rename Top topProg _ _ _ _ _ => kT)
  replace kC86 : CodeHd _ 86 82 := kC86
  replace kC69 : CodeHd _ 69 65 := kC69
  k_steps
  refine halted ?_
  have g82 := (kN _ (.head _)).2
  have g65 := (kN _ (.tail _ (.head _))).2
  dsimp only at g82 g65
  refine wpAny_call (row_go _ _ _ _ _ _ _ _ _ _ _ _ _ _ _ _ _ kX kB kF kT rfl rfl (by decide) (by decide) _ _ _ _ kL kI (by have := kI.length; lia) ?_)
  intro h1 t1 r its nr st1 hr1 hrow
  have F1 := stays_fr kF st1
  have N1 : News _ _ h1 [(82, tabObj #[]), (65, tabObj #[])] := kN.grown st1
  clear kF
  dsimp only
  k_steps
  refine halted ?_
  have nr82 := not_two hr1 N1
  refine wpAny_call (tree_go _ _ _ _ _ _ _ _ _ _ _ _ _ _ _ _ _ kX kB F1 kT rfl rfl kC86 (by decide) (by decide) r its nr #[] #[] _ N1 hr1 nr82 hrow (.inl rfl) ?_)
  intro h2 t2 v tb t b2 e2 tab2 htree hgood hnode hdep hsize
  refine plain t hgood hdep hsize ?_
  intro lt ls p1 p2 p3 p4 p5 p6 p7 p8 p9 p10 p11 p12 p13
  have F2 := but_fr b2 F1 (fun x hx => by rw [List.mem_singleton.mp hx]; exact ⟨g82.2, g82.1⟩)
  refine carry_k F2 [] ?_
  intro rest R1 R2 R4 R5
  have hns2 := F2.ns
  have e65 := b2 65 _ (by decide) (N1 _ (.tail _ (.head _))).1
  have r82 : (82, tabObj tb) ∈ rest := in_rest R4 g82.2 g82.1 e2
  clear F1 N1 kN
  dsimp only at F2 R1 ⊢
  k_steps
  refine halted ?_
  (with_reducible rename Fr _ _ _ _ => kF)
  (with_reducible rename News _ _ _ (_ :: _ :: _) => kN)
  have R6 := R5 _ _ kF (fun q hq => kN q (.tail _ (.tail _ hq)))
  have mv23 := Mv.frame hns2 (fun b o hb e => R6 b o (fun q => nomatch q) hb e)
  (with_reducible rename _ < _ ∧ AllLt _ rest => kl2)
  (with_reducible rename ∀ p ∈ rest, _ < _ => kl1)
  have hl := kN _ (.head _)
  have hr0 := kN _ (.tail _ (.head _))
  dsimp only at hl hr0
  have d82 := kl1 _ r82
  have fl := fresh_of R4 hl.2.2 hl.2.1 (allLt_all kl2.2)
  have fr0 := fresh_of R4 hr0.2.2 hr0.2.1 kl1
  have hL3 := lay_start hl.1 hr0.1 (Nat.ne_of_gt kl2.1) (Nat.lt_trans d82 kl2.1) d82
  refine wpAny_call (lay_str s0 (lay_go lt _ _ _ _ _ _ _ _ _ _ _ _ _ _ _ _ _ kX kB kF kT rfl rfl (Nat.lt_of_le_of_lt (Nat.add_le_add_right (Nat.add_le_add_left p3 _) _) (by decide)) (Nat.lt_of_le_of_lt (Nat.add_le_add_right (Nat.add_le_add_left (Nat.mul_le_mul_left _ p3) _) _) (by decide)) v [] _ _ 0 _ _ ([], []) _ hL3 hl.2.2 hl.2.1 hr0.2.2 hr0.2.1 (tree_laid p5 htree fl fr0 mv23) (neat_fine p2) (by decide) (by lia) (by show 0 + 0 + 4 * lt.size ≤ 50000; lia) ?_))
  intro h4 t4 r4 b4 L4 q4
  have F4 := (after_call kF b4 hl.2.2 hl.2.1 hr0.2.2 hr0.2.1 q4).1
  have mv24 := mv_lay fl fr0 mv23 b4
  have far2 : ∀ b, h2.get? b ≠ none → b ∉ ([_, _] : List Addr) := fun b hb hm => by
    rcases List.mem_cons.mp hm with q | q
    · exact hb (q ▸ fl)
    · exact hb ((List.mem_singleton.mp q) ▸ fr0)
  have e82_4 := b4 82 _ (far2 82 (by rw [e2]; exact fun q => nomatch q)) (R6 82 _ (fun q => nomatch q) g82.1 e2)
  have e65_4 := b4 65 _ (far2 65 (by rw [e65]; exact fun q => nomatch q)) (R6 65 _ (fun q => nomatch q) g65.1 e65)
  have N4 := nil_of F4
  clear kF kN
  dsimp only at F4 ⊢
  k_steps
  refine halted ?_
  (with_reducible rename Fr _ _ _ _ => kF)
  refine wpAny_call (error_go t _ _ _ _ _ _ _ _ _ _ _ _ _ _ _ _ _ kX kB kF kT rfl rfl (Nat.lt_of_le_of_lt (Nat.add_le_add_right (Nat.add_le_add_left hdep _) _) (by decide)) v _ _ _ (htree.mv mv24) e65_4 e82_4 ?_)
  intro h5 t5 v5 st5 et5
  apply node_k hnode et5
  clear et5
  intro e et5
  have F5 := stays_fr kF st5
  have N5 := nil_of F5
  clear kF
  dsimp only at F5 ⊢
  k_steps
  refine halted ?_
  (with_reducible rename Fr _ _ _ _ => kF)
  refine wpAny_call (safe_go _ _ _ _ _ _ _ _ _ _ _ _ _ _ _ _ _ t kX kB kF kT rfl rfl (Nat.lt_of_le_of_lt (Nat.add_le_add_right (Nat.add_le_add_left hdep _) _) (by decide)) (Nat.lt_of_le_of_lt (Nat.add_le_add_right (Nat.add_le_add_left (Nat.mul_le_mul_left _ hdep) _) _) (by decide)) e _ _ _ et5 p7 p8 ?_)
  intro h6 t6 u6 st6
  have F6 := stays_fr kF st6
  refine carry_k F6 [] ?_
  intro rest6 S1 S2 S4 S5
  have hns6 := F6.ns
  have e82_6 := st6 _ _ (st5 _ _ e82_4)
  have e65_6 := st6 _ _ (st5 _ _ e65_4)
  have m82 : (82, tabObj tb) ∈ rest6 := in_rest S4 g82.2 g82.1 e82_6
  have m65 : (65, tabObj #[]) ∈ rest6 := in_rest S4 g65.2 g65.1 e65_6
  clear kF
  dsimp only at F6 S1 ⊢
  k_steps
  refine halted ?_
  (with_reducible rename Fr _ _ _ _ => kF)
  (with_reducible rename News _ _ _ (_ :: _) => kN)
  have S6 := S5 _ _ kF (fun q hq => kN q (.tail _ hq))
  have mv67 := Mv.frame hns6 (fun b o hb e => S6 b o (fun q => nomatch q) hb e)
  have mv47 := (Mv.stays st5).trans ((Mv.stays st6).trans mv67)
  have n7 := pick_two kN (.tail _ m82) (.tail _ m65)
  have hw := (kN _ (.head _)).1
  have nw := not_two hw n7
  refine wpAny_call (split_go _ _ _ _ _ _ _ _ _ _ _ _ _ _ _ _ _ kX kB kF kT rfl rfl kC69 (by decide) _ _ _ _ _ _ _ _ n7 hw nw (.inl rfl) p7 p9 ?_)
  intro h8 t8 v8 tb8 b8 e8 tab8 rows8
  have F8 := but_fr b8 kF (fun x hx => by rw [List.mem_singleton.mp hx]; exact ⟨g65.2, g65.1⟩)
  have mv48 := mv47.trans (Mv.of b8 (by decide))
  have rowsL := L4.rows.mv mv48
  rw [← p6] at rowsL
  have e82_8 := b8 82 _ (by decide) (n7 _ (.head _)).1
  have tab82_8 := (tab2.mv (mv24.trans mv48))
  have N8 := nil_of F8
  clear kF kN
  dsimp only at F8 ⊢
  k_steps
  refine halted ?_
  refine ne_lists rows8 rowsL p13 (by show 4 + 3 + 10 < cLine; decide) ?_
  k_steps
  refine halted ?_
  (with_reducible rename Fr _ _ _ _ => kF)
  have n8 : News _ _ _ [(82, tabObj tb), (65, tabObj tb8)] := two_of ⟨e82_8, g82⟩ ⟨e8, g65⟩
  refine wpAny_call (join_go _ _ _ _ _ _ _ _ _ _ _ _ _ _ _ _ _ kX kB kF kT rfl rfl kC86 (by decide) tb8 tb _ _ _ _ n8 rowsL tab82_8 p10 ?_)
  intro h9 t9 u9 tb9 b9 e9 tab9 nt9
  have F9 := but_fr b9 kF (fun x hx => by rw [List.mem_singleton.mp hx]; exact ⟨g82.2, g82.1⟩)
  have e65_9 := b9 65 _ (by decide) e8
  have mv89 : Mv h8 h9 := Mv.of b9 (by decide)
  refine carry_k F9 [] ?_
  intro rest9 U1 U2 U4 U5
  have hns9 := F9.ns
  have w82 : (82, tabObj tb9) ∈ rest9 := in_rest U4 g82.2 g82.1 e9
  have w65 : (65, tabObj tb8) ∈ rest9 := in_rest U4 g65.2 g65.1 e65_9
  clear kF
  dsimp only at F9 U1 ⊢
  k_steps
  refine halted ?_
  (with_reducible rename Fr _ _ _ _ => kF)
  (with_reducible rename News _ _ _ (_ :: rest9) => kN)
  have U6 := U5 _ _ kF (fun q hq => kN q (.tail _ hq))
  have mv9 := Mv.frame hns9 (fun b o hb e => U6 b o (fun q => nomatch q) hb e)
  have n10 := pick_two kN (.tail _ w82) (.tail _ w65)
  have hw2 := (kN _ (.head _)).1
  have nw2 := not_two hw2 n10
  refine wpAny_call (split_go _ _ _ _ _ _ _ _ _ _ _ _ _ _ _ _ _ kX kB kF kT rfl rfl kC69 (by decide) _ _ _ _ _ _ _ _ n10 hw2 nw2 (tab8.mv (mv89.trans mv9)) p11 p12 ?_)
  intro h11 t11 v11 tb11 b11 e11 tab11 rows11
  have F11 := but_fr b11 kF (fun x hx => by rw [List.mem_singleton.mp hx]; exact ⟨g65.2, g65.1⟩)
  have rowsL2 := rowsL.mv (mv89.trans (mv9.trans (Mv.of b11 (by decide))))
  have N11 := nil_of F11
  clear kF kN
  dsimp only at F11 ⊢
  k_steps
  refine halted ?_
  refine eq_lists rows11 rowsL2 p13 (by show 4 + 3 + 10 < cLine; decide) ?_
  (with_reducible rename Shared.gens _ = #[] => hgens)
  refine ⟨?_, ⟨_, b11 82 _ (by decide) (U6 82 _ (fun q => nomatch q) g82.1 e9)⟩, ⟨_, e11⟩, trivial⟩
  refine goodW_bool F11 hgens (raisesW_false ?_) ?_
  · wrow_none_raised
  · first | kc_post | wrow_post

end
end
end Mine
end
set_option maxRecDepth 100000 in
set_option maxHeartbeats 8000000 in
theorem PySem.Challenge.cw_kl0472_01_holds : PySem.Challenge.rw_kl0472_01.Holds := by
  exact Mine.law_holds
