import PyProof.Rows.All
import Wide.All
import OpenK.AllK
import Wide.FinOn
import PySem.Challenge.RW_pe0223_01
set_option Elab.async false
set_option compiler.extract_closed false
set_option linter.all false
set_option genSizeOf false
set_option genInjectivity false
section
open PySem PySem.W PyProof.Rows
set_option Elab.async false
set_option maxRecDepth 100000
set_option maxHeartbeats 8000000
namespace Mine
open_top hd for PySem.Challenge.rw_pe0223_01
end Mine
end
section
open PySem PySem.Sre
set_option Elab.async false
set_option maxRecDepth 100000
namespace Mine
/-- the matcher's machine, n steps on -/
noncomputable def mIt : Nat → M → M
  | 0, m => m
  | n + 1, m => mIt n m.step
theorem mIt_done {m : M} (h : m.outcome.isSome = true) : ∀ n, mIt n m = m
  | 0 => rfl
  | n + 1 => by
    have e : m.step = m := by unfold M.step; rw [if_pos h]
    rw [mIt, e]; exact mIt_done h n
theorem mIt_add (a b : Nat) (m : M) : mIt (a + b) m = mIt b (mIt a m) := by
  induction a generalizing m with
  | zero => rw [Nat.zero_add]; rfl
  | succ a ih => rw [show a + 1 + b = (a + b) + 1 by omega]; exact ih m.step
theorem runFor_eq (n : Nat) (m : M) : M.runFor n m = mIt n m := by
  induction n generalizing m with
  | zero => rfl
  | succ n ih =>
    rw [M.runFor]
    split
    · rename_i h; rw [mIt_done h]
    · rw [ih]; rfl
/-- within k steps the machine ends in m' -/
noncomputable def Ends (k : Nat) (m m' : M) : Prop := ∃ n, n ≤ k ∧ mIt n m = m' ∧ m'.outcome.isSome = true
theorem Ends.step {k : Nat} {m m1 m' : M} (h : m.step = m1) (e : Ends k m1 m') : Ends (k + 1) m m' := by
  obtain ⟨n, h1, h2, h3⟩ := e
  exact ⟨n + 1, by omega, by rw [mIt, h]; exact h2, h3⟩
theorem Ends.done {m : M} (h : m.outcome.isSome = true) : Ends 0 m m := ⟨0, Nat.le_refl _, rfl, h⟩
theorem Ends.mono {k k' : Nat} {m m' : M} (h : Ends k m m') (hk : k ≤ k') : Ends k' m m' := by
  obtain ⟨n, h1, h2⟩ := h; exact ⟨n, by omega, h2⟩
noncomputable abbrev code1 : Array Nat := #[14, 4, 0, 1, 1, 6, 1, 16, 46, 1]
noncomputable abbrev code2 : Array Nat := #[14, 9, 4, 1, 2, 16, 10, 16, 13, 0, 7, 7, 16, 13, 16, 10, 15, 18, 5, 16, 10, 15, 13, 11, 16, 13, 5, 5, 0, 16, 10, 1, 15, 2, 0, 1]
/-- an attempt at place s -/
noncomputable def at1 (text : Array Nat) (lim s : Nat) (first : Bool) (seen : Seen) : M :=
  { code := code1, text, lim, start := s, lastStart := lim, pc := 5, pos := s, handed := s, outermost := first, marks := #[], frames := [{ wait := .nextStart, pc := 5, pos := s, outermost := first }], weight := 1, seen }
theorem search1 (text : Array Nat) (s lim : Nat) (h : s < lim) : ∃ seen, forSearch code1 text 0 s lim false = at1 text lim s true seen := by
  refine ⟨({} : Seen).add 14, ?_⟩
  have e : forSearch code1 text 0 s lim false = if (decide (s > lim) || decide (lim - s < 1)) = true then _ else at1 text lim s true (({} : Seen).add 14) := rfl
  rw [e, if_neg (by simp; omega)]
theorem search1_end (text : Array Nat) (s lim : Nat) (h : ¬ s < lim) : ∃ m', Ends 1 (forSearch code1 text 0 s lim false) m' ∧ m'.outcome = some .failed := by
  have e : forSearch code1 text 0 s lim false = if (decide (s > lim) || decide (lim - s < 1)) = true then _ else at1 text lim s true (({} : Seen).add 14) := rfl
  rw [e, if_pos (by simp; omega)]
  exact ⟨_, Ends.step rfl (Ends.done rfl), rfl⟩
noncomputable def bol (text : Array Nat) (s : Nat) : Bool := s == 0 || text.getD (s - 1) 0 == 10
theorem no1 (text : Array Nat) (lim s : Nat) (first : Bool) (seen : Seen) (h : bol text s = false) : ∃ seen', (at1 text lim s first seen).step = { at1 text lim s first seen with answer := some false, seen := seen' } := by
  refine ⟨(seen.add 6).add 44, ?_⟩
  have : (at1 text lim s first seen).step = if bol text s = true then { at1 text lim s first seen with pc := 7, seen := (seen.add 6).add 44 } else { at1 text lim s first seen with answer := some false, seen := (seen.add 6).add 44 } := rfl
  rw [this, h]; rfl
theorem yes1 (text : Array Nat) (lim s : Nat) (first : Bool) (seen : Seen) (h : bol text s = true) : ∃ seen', (at1 text lim s first seen).step = { at1 text lim s first seen with pc := 7, seen := seen' } := by
  refine ⟨(seen.add 6).add 44, ?_⟩
  have : (at1 text lim s first seen).step = if bol text s = true then { at1 text lim s first seen with pc := 7, seen := (seen.add 6).add 44 } else { at1 text lim s first seen with answer := some false, seen := (seen.add 6).add 44 } := rfl
  rw [this, h]; rfl
theorem acc_lit (code : Array Nat) (i c : Nat) (seen : Seen) (h : code.getD i 0 = 16) : accepts code i c seen = .ok (c == code.getD (i + 1) 0, seen) := by
  unfold accepts; rw [h]; rfl
theorem wid_lit (code : Array Nat) (i : Nat) (h : code.getD i 0 = 16) : itemWidth code i = 2 := by
  unfold itemWidth; rw [h]; rfl
/-- a literal's step -/
theorem lit_step (m : M) (ho : m.outcome = none) (ha : m.answer = none) (hp : m.pc < m.code.size) (h0 : m.code.getD m.pc 0 = 16) :
    m.step = if m.pos ≥ m.lim then { m with answer := some false, seen := m.seen.add 16 } else
      if (m.text.getD m.pos 0 == m.code.getD (m.pc + 1) 0) = true then { m with seen := m.seen.add 16, pc := m.pc + 2, pos := m.pos + 1 } else { m with answer := some false, seen := m.seen.add 16 } := by
  unfold M.step
  rw [if_neg (by rw [ho]; exact Bool.false_ne_true), ha]
  show (if m.pc < m.code.size then m.exec else _) = _
  rw [if_pos hp]
  unfold M.exec
  have hw : m.word 0 = 16 := h0
  rw [hw]
  show (if m.pos ≥ m.lim then _ else _) = _
  by_cases h : m.pos ≥ m.lim
  · rw [if_pos h, if_pos h]; rfl
  · rw [if_neg h, if_neg h]
    simp only [acc_lit _ _ _ _ h0, wid_lit _ _ h0]
    cases m.text.getD m.pos 0 == m.code.getD (m.pc + 1) 0 <;> first | rfl | (simp only [ha]; rfl)
theorem lit_no (m : M) (ho : m.outcome = none) (ha : m.answer = none) (hp : m.pc < m.code.size) (h0 : m.code.getD m.pc 0 = 16) (h : m.pos ≥ m.lim ∨ m.text.getD m.pos 0 ≠ m.code.getD (m.pc + 1) 0) : m.step = { m with answer := some false, seen := m.seen.add 16 } := by
  rw [lit_step m ho ha hp h0]
  rcases h with h | h
  · rw [if_pos h]
  · rw [if_neg (c := (_ == _) = true) (by simpa using h)]; exact ite_self _
theorem lit_yes (m : M) (ho : m.outcome = none) (ha : m.answer = none) (hp : m.pc < m.code.size) (h0 : m.code.getD m.pc 0 = 16) (h1 : m.pos < m.lim) (h2 : m.text.getD m.pos 0 = m.code.getD (m.pc + 1) 0) : m.step = { m with seen := m.seen.add 16, pc := m.pc + 2, pos := m.pos + 1 } := by
  rw [lit_step m ho ha hp h0, if_neg (by omega), if_pos (by simpa using h2)]
/-- an attempt that fails goes on at the next place -/
theorem fail1 (text : Array Nat) (lim s pc : Nat) (first : Bool) (seen : Seen) (h : s < lim) : ({ at1 text lim s first seen with pc := pc, answer := some false } : M).step = at1 text lim (s + 1) false seen := by
  have : ({ at1 text lim s first seen with pc := pc, answer := some false } : M).step = if s < lim then at1 text lim (s + 1) false seen else _ := rfl
  rw [this, if_pos h]
theorem fail1_end (text : Array Nat) (lim s pc : Nat) (first : Bool) (seen : Seen) (h : ¬ s < lim) : ∃ m', Ends 2 { at1 text lim s first seen with pc := pc, answer := some false } m' ∧ m'.outcome = some .failed := by
  have : ({ at1 text lim s first seen with pc := pc, answer := some false } : M).step = if s < lim then at1 text lim (s + 1) false seen else _ := rfl
  rw [if_neg h] at this
  exact ⟨_, Ends.step this (Ends.step rfl (Ends.done rfl)), rfl⟩
/-- where the first pattern is found -/
noncomputable def f1 : Bool → List Nat → Option Nat
  | _, [] => none
  | b, c :: r => if b = true ∧ c = 46 then some 0 else (f1 (c == 10) r).map (· + 1)
theorem getD_drop {text : Array Nat} {s c : Nat} {r : List Nat} (h : text.toList.drop s = c :: r) : text.getD s 0 = c ∧ s < text.size ∧ text.toList.drop (s + 1) = r := by
  have h1 : s < text.toList.length := by
    rcases Nat.lt_or_ge s text.toList.length with h1 | h1
    · exact h1
    · rw [List.drop_eq_nil_of_le h1] at h; cases h
  rw [List.drop_eq_getElem_cons h1] at h
  obtain ⟨h2, h3⟩ := List.cons.inj h
  refine ⟨?_, by simpa using h1, h3⟩
  rw [← h2]
  have : s < text.size := by simpa using h1
  simp [Array.getD, this]
theorem find1 (text : Array Nat) : ∀ (l : List Nat) (s : Nat) (first : Bool) (seen : Seen), text.toList.drop s = l → s ≤ text.size →
    ∃ m', Ends (5 * l.length + 5) (at1 text text.size s first seen) m' ∧ (match f1 (bol text s) l with | none => m'.outcome = some .failed | some i => m'.outcome = some .matched ∧ m'.start = s + i ∧ m'.handed = s + i + 1)
  | [], s, first, seen, h, hs => by
    have hs' : ¬ s < text.size := by
      have := congrArg List.length h; simp at this; omega
    simp only [f1]
    cases hb : bol text s
    · obtain ⟨sn, e⟩ := no1 text text.size s first seen hb
      obtain ⟨m', e1, e2⟩ := fail1_end text text.size s 5 first sn hs'
      exact ⟨m', (Ends.step e e1).mono (by simp), e2⟩
    · obtain ⟨sn, e⟩ := yes1 text text.size s first seen hb
      have e3 := lit_no { at1 text text.size s first sn with pc := 7 } rfl rfl (by show 7 < 10; decide) rfl (.inl (by show s ≥ text.size; omega))
      obtain ⟨m', e1, e2⟩ := fail1_end text text.size s 7 first (sn.add 16) hs'
      exact ⟨m', (Ends.step e (Ends.step e3 e1)).mono (by simp), e2⟩
  | c :: r, s, first, seen, h, hs => by
    obtain ⟨g1, g2, g3⟩ := getD_drop h
    have hb' : bol text (s + 1) = (c == 10) := by unfold bol; simp [← g1]
    by_cases hc : bol text s = true ∧ c = 46
    · rw [f1, if_pos hc]
      obtain ⟨sn, e⟩ := yes1 text text.size s first seen hc.1
      have e3 := lit_yes { at1 text text.size s first sn with pc := 7 } rfl rfl (by show 7 < 10; decide) rfl g2 (by rw [show ({ at1 text text.size s first sn with pc := 7 } : M).text.getD ({ at1 text text.size s first sn with pc := 7 } : M).pos 0 = c from g1, hc.2]; rfl)
      cases first <;> exact ⟨_, (Ends.step e (Ends.step e3 (Ends.step rfl (Ends.step rfl (Ends.step rfl (Ends.done rfl)))))).mono (by simp), rfl, rfl, rfl⟩
    · rw [f1, if_neg hc]
      have key : ∃ sn pc, ∃ k, k ≤ 2 ∧ mIt k (at1 text text.size s first seen) = { at1 text text.size s first sn with pc := pc, answer := some false } := by
        cases hb : bol text s
        · obtain ⟨sn, e⟩ := no1 text text.size s first seen hb
          exact ⟨sn, 5, 1, by omega, e⟩
        · obtain ⟨sn, e⟩ := yes1 text text.size s first seen hb
          have e3 := lit_no { at1 text text.size s first sn with pc := 7 } rfl rfl (by show 7 < 10; decide) rfl (.inr (by rw [show ({ at1 text text.size s first sn with pc := 7 } : M).text.getD ({ at1 text text.size s first sn with pc := 7 } : M).pos 0 = c from g1]; exact fun hh => hc ⟨hb, hh⟩))
          exact ⟨sn.add 16, 7, 2, by omega, (congrArg M.step e).trans e3⟩
      obtain ⟨sn, pc, k, hk, e⟩ := key
      have e4 := fail1 text text.size s pc first sn g2
      obtain ⟨m', ⟨n, w1, w2, w3⟩, hm⟩ := find1 text r (s + 1) false sn g3 g2
      refine ⟨m', ⟨k + (n + 1), by simp; omega, ?_, w3⟩, ?_⟩
      · rw [mIt_add, e, mIt, e4]; exact w2
      · rw [hb'] at hm
        cases hf : f1 (c == 10) r with
        | none => rw [hf] at hm; exact hm
        | some i =>
          rw [hf] at hm
          obtain ⟨x1, x2, x3⟩ := hm
          exact ⟨x1, by show m'.start = s + (i + 1); omega, by show m'.handed = s + (i + 1) + 1; omega⟩
/-- an attempt of the second pattern at place s -/
noncomputable def at2 (text : Array Nat) (lim s : Nat) (first : Bool) (seen : Seen) : M :=
  { code := code2, text, lim, start := s, lastStart := lim, pc := 10, pos := s, handed := s, outermost := first, marks := #[], frames := [{ wait := .nextStart, pc := 10, pos := s, outermost := first }], weight := 1, seen }
theorem inSet2 (c : Nat) (seen : Seen) : inSet code2 c code2.size 5 true seen = if (c == 10) = true then .ok (true, seen.add 16) else if (c == 13) = true then .ok (true, (seen.add 16).add 16) else .ok (false, ((seen.add 16).add 16).add 0) := rfl
theorem inSet2_yes (c : Nat) (seen : Seen) (h : c = 10 ∨ c = 13) : ∃ sn, inSet code2 c code2.size 5 true seen = .ok (true, sn) := by
  rw [inSet2]
  rcases h with h | h
  · exact ⟨_, by rw [if_pos (by simpa using h)]⟩
  · exact ⟨_, by rw [if_neg (by simp; omega), if_pos (by simpa using h)]⟩
theorem inSet2_no (c : Nat) (seen : Seen) (h : ¬ (c = 10 ∨ c = 13)) : ∃ sn, inSet code2 c code2.size 5 true seen = .ok (false, sn) := by
  rw [inSet2]
  exact ⟨_, by rw [if_neg (by simp; omega), if_neg (by simp; omega)]⟩
/-- the first place of a return or a feed -/
noncomputable def f0 : List Nat → Option Nat
  | [] => none
  | c :: r => if c = 10 ∨ c = 13 then some 0 else (f0 r).map (· + 1)
theorem admit2 (text : Array Nat) (m : M) (hc : m.code = code2) (ht : m.text = text) (hl : m.lim = text.size) : ∀ (l : List Nat) (s fuel : Nat) (seen : Seen), text.toList.drop s = l → l.length < fuel → ∃ sn, M.admitted m fuel s seen = .ok ((f0 l).map (s + ·), sn)
  | [], s, 0, seen, h, hf => absurd hf (Nat.not_lt_zero _)
  | _ :: _, s, 0, seen, h, hf => absurd hf (Nat.not_lt_zero _)
  | [], s, fuel + 1, seen, h, hf => by
    have hs : s ≥ text.size := by have := congrArg List.length h; simp at this; omega
    exact ⟨seen, by rw [M.admitted, hl, if_pos hs]; rfl⟩
  | c :: r, s, fuel + 1, seen, h, hf => by
    obtain ⟨g1, g2, g3⟩ := getD_drop h
    rw [M.admitted, hl, if_neg (by omega), hc, ht, g1]
    by_cases hcc : c = 10 ∨ c = 13
    · obtain ⟨sn, e⟩ := inSet2_yes c seen hcc
      rw [e, f0, if_pos hcc]; exact ⟨sn, rfl⟩
    · obtain ⟨sn, e⟩ := inSet2_no c seen hcc
      obtain ⟨sn', e'⟩ := admit2 text m hc ht hl r (s + 1) fuel sn g3 (by simp at hf; omega)
      rw [e, f0, if_neg hcc]
      refine ⟨sn', e'.trans ?_⟩
      cases f0 r with
      | none => rfl
      | some i => simp only [Option.map_some]; rw [show s + 1 + i = s + (i + 1) by omega]
/-- within an alternative -/
noncomputable def br (text : Array Nat) (lim s : Nat) (first : Bool) (alt pc pos hd : Nat) (seen : Seen) : M :=
  { code := code2, text, lim, start := s, lastStart := lim, pc, pos, handed := hd, outermost := first, marks := #[], frames := [{ wait := .nextBranch, pc := alt, pos := s, outermost := first }, { wait := .nextStart, pc := 10, pos := s, outermost := first }], weight := 2, seen }
noncomputable def brNo (text : Array Nat) (lim s : Nat) (first : Bool) (alt pc pos hd : Nat) (seen : Seen) : M :=
  { code := code2, text, lim, start := s, lastStart := lim, pc, pos, handed := hd, outermost := first, marks := #[], frames := [{ wait := .nextBranch, pc := alt, pos := s, outermost := first }, { wait := .nextStart, pc := 10, pos := s, outermost := first }], weight := 2, answer := some false, seen }
section
variable (text : Array Nat) (lim s : Nat) (first : Bool) (alt pc pos hd : Nat) (seen : Seen)
theorem tail2 : ∃ m', Ends 4 (br text lim s first alt 35 pos hd seen) m' ∧ m'.outcome = some .matched ∧ m'.start = s ∧ m'.handed = pos := by
  cases first <;> exact ⟨_, Ends.step rfl (Ends.step rfl (Ends.step rfl (Ends.step rfl (Ends.done rfl)))), rfl, rfl, rfl⟩
theorem br0 : (at2 text lim s first seen).step = br text lim s first 11 12 s s (seen.add 7) := rfl
theorem br1 : (brNo text lim s first 11 pc pos hd seen).step = br text lim s first 18 19 s s seen := rfl
theorem br2 : (brNo text lim s first 18 pc pos hd seen).step = br text lim s first 23 24 s s seen := rfl
theorem br_yes (hp : pc < 36) (h0 : code2.getD pc 0 = 16) (h1 : pos < lim) (h2 : text.getD pos 0 = code2.getD (pc + 1) 0) : (br text lim s first alt pc pos hd seen).step = br text lim s first alt (pc + 2) (pos + 1) hd (seen.add 16) :=
  lit_yes (br text lim s first alt pc pos hd seen) rfl rfl hp h0 h1 h2
theorem br_no (hp : pc < 36) (h0 : code2.getD pc 0 = 16) (h : pos ≥ lim ∨ text.getD pos 0 ≠ code2.getD (pc + 1) 0) : (br text lim s first alt pc pos hd seen).step = brNo text lim s first alt pc pos hd (seen.add 16) :=
  lit_no (br text lim s first alt pc pos hd seen) rfl rfl hp h0 h
theorem br_j16 : (br text lim s first alt 16 pos hd seen).step = br text lim s first alt 35 pos hd (seen.add 15) := rfl
theorem br_j21 : (br text lim s first alt 21 pos hd seen).step = br text lim s first alt 35 pos hd (seen.add 15) := rfl
theorem br_j32 : (br text lim s first alt 32 pos hd seen).step = br text lim s first alt 35 pos hd (seen.add 15) := rfl
/-- within the look ahead -/
noncomputable def lk (text : Array Nat) (lim s : Nat) (first : Bool) (alt pos : Nat) (seen : Seen) : M :=
  { code := code2, text, lim, start := s, lastStart := lim, pc := 29, pos, handed := pos, outermost := false, marks := #[], frames := [{ wait := .lookNot, pc := 26, pos := pos, outermost := first }, { wait := .nextBranch, pc := alt, pos := s, outermost := first }, { wait := .nextStart, pc := 10, pos := s, outermost := first }], weight := 3, seen }
noncomputable def lkNo (text : Array Nat) (lim s : Nat) (first : Bool) (alt pos : Nat) (seen : Seen) : M :=
  { code := code2, text, lim, start := s, lastStart := lim, pc := 29, pos, handed := pos, outermost := false, marks := #[], frames := [{ wait := .lookNot, pc := 26, pos := pos, outermost := first }, { wait := .nextBranch, pc := alt, pos := s, outermost := first }, { wait := .nextStart, pc := 10, pos := s, outermost := first }], weight := 3, answer := some false, seen }
theorem lk0 : (br text lim s first alt 26 pos hd seen).step = lk text lim s first alt pos (seen.add 5) := rfl
theorem lk_no (h : pos ≥ lim ∨ text.getD pos 0 ≠ 10) : (lk text lim s first alt pos seen).step = lkNo text lim s first alt pos (seen.add 16) := lit_no (lk text lim s first alt pos seen) rfl rfl (by show 29 < 36; decide) rfl h
theorem lk1 : (lkNo text lim s first alt pos seen).step = br text lim s first alt 32 pos pos seen := rfl
end
theorem hitA (text : Array Nat) (lim s : Nat) (first : Bool) (seen : Seen) (h1 : s < lim) (h2 : text.getD s 0 = 13) (h3 : s + 1 < lim) (h4 : text.getD (s + 1) 0 = 10) :
    ∃ m', Ends 30 (at2 text lim s first seen) m' ∧ m'.outcome = some .matched ∧ m'.start = s ∧ m'.handed = s + 2 := by
  obtain ⟨m', e, r⟩ := tail2 text lim s first 11 (s + 2) s ((((seen.add 7).add 16).add 16).add 15)
  exact ⟨m', Ends.mono (Ends.step (br0 ..) (Ends.step (br_yes _ _ _ _ _ _ _ _ _ (by decide) rfl h1 h2) (Ends.step (br_yes _ _ _ _ _ _ _ _ _ (by decide) rfl h3 h4) (Ends.step (br_j16 ..) e)))) (by decide), r⟩
theorem hitB (text : Array Nat) (lim s : Nat) (first : Bool) (seen : Seen) (h1 : s < lim) (h2 : text.getD s 0 = 10) :
    ∃ m', Ends 30 (at2 text lim s first seen) m' ∧ m'.outcome = some .matched ∧ m'.start = s ∧ m'.handed = s + 1 := by
  obtain ⟨m', e, r⟩ := tail2 text lim s first 18 (s + 1) s ((((seen.add 7).add 16).add 16).add 15)
  exact ⟨m', Ends.mono (Ends.step (br0 ..) (Ends.step (br_no _ _ _ _ _ _ _ _ _ (by decide) rfl (.inr (by rw [h2]; decide))) (Ends.step (br1 ..) (Ends.step (br_yes _ _ _ _ _ _ _ _ _ (by decide) rfl h1 h2) (Ends.step (br_j21 ..) e))))) (by decide), r⟩
theorem hitC (text : Array Nat) (lim s : Nat) (first : Bool) (seen : Seen) (h1 : s < lim) (h2 : text.getD s 0 = 13) (h3 : s + 1 ≥ lim ∨ text.getD (s + 1) 0 ≠ 10) :
    ∃ m', Ends 30 (at2 text lim s first seen) m' ∧ m'.outcome = some .matched ∧ m'.start = s ∧ m'.handed = s + 1 := by
  obtain ⟨m', e, r⟩ := tail2 text lim s first 23 (s + 1) (s + 1) ((((((((seen.add 7).add 16).add 16).add 16).add 16).add 5).add 16).add 15)
  exact ⟨m', Ends.mono (Ends.step (br0 ..) (Ends.step (br_yes _ _ _ _ _ _ _ _ _ (by decide) rfl h1 h2) (Ends.step (br_no _ _ _ _ _ _ _ _ _ (by decide) rfl h3) (Ends.step (br1 ..) (Ends.step (br_no _ _ _ _ _ _ _ _ _ (by decide) rfl (.inr (by rw [h2]; decide))) (Ends.step (br2 ..)
    (Ends.step (br_yes _ _ _ _ _ _ _ _ _ (by decide) rfl h1 h2) (Ends.step (lk0 ..) (Ends.step (lk_no _ _ _ _ _ _ _ h3) (Ends.step (lk1 ..) (Ends.step (br_j32 ..) e))))))))))) (by decide), r⟩
theorem getD_of_lt {l : List Nat} {text : Array Nat} {s : Nat} (h : text.toList.drop s = l) (i : Nat) : text.getD (s + i) 0 = l.getD i 0 := by
  subst h
  by_cases hi : s + i < text.size
  · simp [Array.getD, hi, List.getD]
  · simp [Array.getD, hi, List.getD, List.getElem?_drop]
theorem f0_spec : ∀ (l : List Nat) (i : Nat), f0 l = some i → i < l.length ∧ (l.getD i 0 = 10 ∨ l.getD i 0 = 13)
  | [], i, h => by simp [f0] at h
  | c :: r, i, h => by
    rw [f0] at h
    split at h
    · rename_i hc; cases h; exact ⟨by simp, by simpa using hc⟩
    · cases hr : f0 r with
      | none => rw [hr] at h; cases h
      | some j =>
        rw [hr] at h; cases h
        obtain ⟨h1, h2⟩ := f0_spec r j hr
        exact ⟨by simp; omega, by simpa using h2⟩
noncomputable def w2 (l : List Nat) (i : Nat) : Nat := if l.getD i 0 = 13 ∧ l.getD (i + 1) 0 = 10 then 2 else 1
theorem search2 (text : Array Nat) (s : Nat) (h : s ≤ text.size) : ∃ m', Ends 30 (forSearch code2 text 0 s text.size false) m' ∧
    (match f0 (text.toList.drop s) with | none => m'.outcome = some .failed | some i => m'.outcome = some .matched ∧ m'.start = s + i ∧ m'.handed = s + i + w2 (text.toList.drop s) i) := by
  have e : forSearch code2 text 0 s text.size false = if (decide (s > text.size) || decide (text.size - s < 1)) = true then _ else match M.admitted { code := code2, text, lim := text.size, start := s, lastStart := text.size, pc := 10, pos := s, handed := s, marks := #[], seen := ({} : Seen).add 14 } (text.size + 1 - s) s (({} : Seen).add 14) with
      | .ok (some s', seen) => at2 text text.size s' true seen
      | .ok (none, seen) => ({ code := code2, text, lim := text.size, start := s, lastStart := text.size, pc := 10, pos := s, handed := s, marks := #[], seen } : M).say false
      | .error why => M.stick _ why := rfl
  have hlen : (text.toList.drop s).length = text.size - s := by simp
  by_cases hs : s < text.size
  · rw [e, if_neg (by simp; omega)]
    obtain ⟨sn, e2⟩ := admit2 text { code := code2, text, lim := text.size, start := s, lastStart := text.size, pc := 10, pos := s, handed := s, marks := #[], seen := ({} : Seen).add 14 } rfl rfl rfl _ s (text.size + 1 - s) (({} : Seen).add 14) rfl (by omega)
    rw [e2]
    cases hf : f0 (text.toList.drop s) with
    | none => exact ⟨_, (Ends.step rfl (Ends.done rfl)).mono (by decide), rfl⟩
    | some i =>
      obtain ⟨hi, hci⟩ := f0_spec _ _ hf
      have g0 := getD_of_lt (text := text) (s := s) rfl i
      have g1 := getD_of_lt (text := text) (s := s) rfl (i + 1)
      rw [hlen] at hi
      show ∃ m', Ends 30 (at2 text text.size (s + i) true sn) m' ∧ m'.outcome = some .matched ∧ m'.start = s + i ∧ m'.handed = s + i + w2 (text.toList.drop s) i
      have hsi : s + i < text.size := by omega
      rcases hci with hc | hc
      · rw [w2, if_neg (by rw [hc]; simp)]
        exact hitB text text.size (s + i) true sn hsi (g0.trans hc)
      · by_cases hd : (text.toList.drop s).getD (i + 1) 0 = 10
        · rw [w2, if_pos ⟨hc, hd⟩]
          have h3 : s + i + 1 < text.size := by
            rcases Nat.lt_or_ge (s + i + 1) text.size with h3 | h3
            · exact h3
            · rw [List.getD, List.getElem?_eq_none (by rw [hlen]; omega)] at hd; simp at hd
          exact hitA text text.size (s + i) true sn hsi (g0.trans hc) h3 (g1.trans hd)
        · rw [w2, if_neg (fun h => hd h.2)]
          exact hitC text text.size (s + i) true sn hsi (g0.trans hc) (.inr (by rw [show s + i + 1 = s + (i + 1) by omega, g1]; exact hd))
  · rw [e, if_pos (by simp; omega)]
    rw [List.drop_eq_nil_of_le (by simp; omega)]
    exact ⟨_, (Ends.step rfl (Ends.done rfl)).mono (by decide), rfl⟩
theorem searchOne (text : Array Nat) (s : Nat) (h : s ≤ text.size) : ∃ m', Ends (5 * text.size + 10) (forSearch code1 text 0 s text.size false) m' ∧
    (match f1 (bol text s) (text.toList.drop s) with | none => m'.outcome = some .failed | some i => m'.outcome = some .matched ∧ m'.start = s + i ∧ m'.handed = s + i + 1) := by
  by_cases hs : s < text.size
  · obtain ⟨sn, e⟩ := search1 text s text.size hs
    rw [e]
    obtain ⟨m', e1, e2⟩ := find1 text _ s true sn rfl h
    exact ⟨m', e1.mono (by simp; omega), e2⟩
  · rw [List.drop_eq_nil_of_le (by simp; omega)]
    obtain ⟨m', e1, e2⟩ := search1_end text s text.size hs
    exact ⟨m', e1.mono (by omega), e2⟩
end Mine
end
section
open PySem PySem.W PyProof.Rows PySem.Calls PySem.Spec PySem.Builtin PySem.Builtin.Re
set_option Elab.async false
set_option maxRecDepth 100000
namespace Mine
theorem drive_wp {M : Model} {A : Around} {E : Value → Shared → Prop} {s : Shared} {Q : Sre.M → Shared → Prop} : ∀ (turns k : Nat) (m m' : Sre.M), Ends k m m' → k < 4 * turns → Q m' s → wpAny M A (reDrive turns m) Q E s
  | 0, k, m, m', h, hk, hq => absurd hk (Nat.not_lt_zero _)
  | turns + 1, k, m, m', h, hk, hq => by
    obtain ⟨n, h1, h2, h3⟩ := h
    rw [reDrive]
    show wpAny M A (if (m.runFor 4).outcome.isSome = true then pure (m.runFor 4) else do rule "sre.turn"; reDrive turns (m.runFor 4)) Q E s
    rw [runFor_eq]
    by_cases hm : (mIt 4 m).outcome.isSome = true
    · rw [if_pos hm]
      have e : mIt 4 m = m' := by
        rcases Nat.le_total n 4 with hn | hn
        · obtain ⟨j, hj⟩ := Nat.exists_eq_add_of_le hn
          rw [hj, mIt_add, h2, mIt_done h3]
        · obtain ⟨j, rfl⟩ := Nat.exists_eq_add_of_le hn
          rw [mIt_add, mIt_done hm] at h2; exact h2
      rw [e]; exact wpAny_pure hq
    · rw [if_neg hm]
      have hn : 4 < n := by
        rcases Nat.lt_or_ge 4 n with hn | hn
        · exact hn
        · exfalso
          obtain ⟨j, hj⟩ := Nat.exists_eq_add_of_le hn
          have := mIt_add n j m
          rw [← hj, h2, mIt_done h3] at this
          rw [this] at hm; exact hm h3
      obtain ⟨j, rfl⟩ := Nat.exists_eq_add_of_le (Nat.le_of_lt hn)
      rw [mIt_add] at h2
      exact wpAny_bind (wpAny_rule (drive_wp turns (k - 4) (mIt 4 m) m' ⟨j, by omega, h2, h3⟩ (by omega) hq))
theorem toEnd_wp {M : Model} {A : Around} {E : Value → Shared → Prop} {s : Shared} {Q : Option Sre.M → Shared → Prop} {k : Nat} {m m' : Sre.M} (h : Ends k m m') (hk : k < 2 ^ 66)
    (h1 : m'.outcome = some .matched → Q (some m') s) (h2 : m'.outcome = some .failed → Q none s) (h3 : m'.outcome = some .matched ∨ m'.outcome = some .failed) : wpAny M A (reRunToEnd m) Q E s := by
  unfold reRunToEnd
  refine wpAny_bind (drive_wp (2 ^ 64) k m m' h (by omega) ?_)
  refine wpAny_bind (wpAny_forIn_list _ (fun _ _ s' => s' = s) _ ?_ ?_ _ _ rfl)
  · rintro x rest b s' rfl
    split
    · exact wpAny_bind (wpAny_rule (wpAny_pure rfl))
    · exact wpAny_pure rfl
  · rintro b s' rfl
    rcases h3 with h3 | h3
    · rw [h3]; exact wpAny_pure (h1 h3)
    · rw [h3]; exact wpAny_pure (h2 h3)
/-- what a search from any place of the text tells -/
noncomputable def Srch (code text : Array Nat) (find : Nat → Option (Nat × Nat)) : Prop := ∀ p, p ≤ text.size → ∃ m' k, k < 2 ^ 66 ∧ Ends k (Sre.forSearch code text 0 p text.size false) m' ∧
  (match find p with | none => m'.outcome = some .failed | some (i, j) => m'.outcome = some .matched ∧ m'.start = i ∧ m'.handed = j ∧ p ≤ i ∧ i < j ∧ j ≤ text.size)
/-- a pattern's object, and its code -/
noncomputable def PatAt (h : Heap) (pat : Addr) (code : Array Nat) : Prop := ∃ ct x0 x1 x3 x4 ci, h.get? pat = some { cls := .type "re.Pattern", data := .fields #[x0, x1, .int 0 0, x3, x4, .ref ct, .int 0 0] } ∧ h.get? ct = some { cls := .type "tuple", data := .seq ci } ∧ (ci.map reRawOf).map (·.toNat) = code
theorem PatAt.grown {h h' : Heap} {pat : Addr} {code : Array Nat} (p : PatAt h pat code) (hk : ∀ b o, h.get? b = some o → h'.get? b = some o) : PatAt h' pat code := by
  obtain ⟨ct, x0, x1, x3, x4, ci, h1, h2, h3⟩ := p
  exact ⟨ct, x0, x1, x3, x4, ci, hk _ _ h1, hk _ _ h2, h3⟩
theorem target_wp {prog : Program} {w : World} {A : Around} {E : Value → Shared → Prop} {s : Shared} {Q : ReTarget → Shared → Prop} {pat : Addr} {code : Array Nat} {st : Str} {t : Tok} (hp : PatAt s.heap pat code)
    (h : Q { pattern := .ref pat, string := .str st t, code, text := st.cps, kind := 0, groups := 0, pos := 0, lim := st.cps.size } s) : wpAny (model prog w) A (reWholeTarget (.ref pat) (.str st t)) Q E s := by
  obtain ⟨ct, x0, x1, x3, x4, ci, h1, h2, rfl⟩ := hp
  obtain ⟨hp, g, d, tk, os⟩ := s
  unfold reWholeTarget
  wp_walk
  exact h
/-- what is put for the rest of the text from p on -/
noncomputable def subL (find : Nat → Option (Nat × Nat)) (text : Array Nat) (repl : List Nat) : Nat → Nat → List Nat
  | 0, _ => []
  | k + 1, p => match find p with
    | none => text.toList.drop p
    | some (i, j) => (text.extract p i).toList ++ (repl ++ subL find text repl k j)
noncomputable abbrev lst (vs : List Value) (n : Nat) : Obj := { cls := .type "list", dict := none, data := .seq vs.toArray n, slots := #[] }
noncomputable def flat (ps : List (Str × Tok)) : List Nat := (ps.map fun p => p.1.cps.toList).flatten
theorem found_none {M : Model} {A : Around} {E : Value → Shared → Prop} {s : Shared} {Q : Option Sre.M → Shared → Prop} {code text : Array Nat} {find : Nat → Option (Nat × Nat)} {p : Nat} {v u : Value} (hS : Srch code text find) (hp : p ≤ text.size) (hf : find p = none) (h : Q none s) :
    wpAny M A (reNextFound { pattern := v, string := u, code, text, kind := 0, groups := 0, pos := 0, lim := text.size } (p : Int).toNat false) Q E s := by
  obtain ⟨m', k, hk, he, hm⟩ := hS p hp
  rw [hf] at hm
  exact toEnd_wp he hk (fun e => by rw [hm] at e; cases e) (fun _ => h) (.inr hm)
theorem found_some {M : Model} {A : Around} {E : Value → Shared → Prop} {s : Shared} {Q : Option Sre.M → Shared → Prop} {code text : Array Nat} {find : Nat → Option (Nat × Nat)} {p i j : Nat} {v u : Value} (hS : Srch code text find) (hp : p ≤ text.size) (hf : find p = some (i, j)) (h : ∀ m' : Sre.M, m'.start = i → m'.handed = j → Q (some m') s) :
    wpAny M A (reNextFound { pattern := v, string := u, code, text, kind := 0, groups := 0, pos := 0, lim := text.size } (p : Int).toNat false) Q E s := by
  obtain ⟨m', k, hk, he, hm⟩ := hS p hp
  rw [hf] at hm
  exact toEnd_wp he hk (fun _ => h m' hm.2.1 hm.2.2.1) (fun e => by rw [hm.1] at e; cases e) (.inl hm.1)
theorem Srch.rng {code text : Array Nat} {find : Nat → Option (Nat × Nat)} {p i j : Nat} (hS : Srch code text find) (hp : p ≤ text.size) (hf : find p = some (i, j)) : p ≤ i ∧ i < j ∧ j ≤ text.size := by
  obtain ⟨m', k, hk, he, hm⟩ := hS p hp
  rw [hf] at hm
  exact hm.2.2.2
theorem push_wp {prog : Program} {w : World} {A : Around} {E : Value → Shared → Prop} {hh : Heap} {g : Array GenState} {d : Drawn} {tk : Nat} {os : OsState} {Q : Unit → Shared → Prop} {h1 : Heap} {l : Addr} {ps : List (Str × Tok)} {n : Nat} {x : Str} {u : Tok} (hl : h1.get? l = none) (hg : ∀ b o, h1.get? b = some o → hh.get? b = some o) (hs : hh.get? l = some (lst (strValues ps) n)) (hz : ps.length ≤ 1000000)
    (h : ∀ h' n', (∀ b o, h1.get? b = some o → h'.get? b = some o) → h'.get? l = some (lst (strValues (ps ++ [(x, u)])) n') → Q () ⟨h', g, d, tk, os⟩) : wpAny (model prog w) A (updateSeq l (·.push (.str x u))) Q E ⟨hh, g, d, tk, os⟩ := by
  refine wpAny_updateSeq hs rfl (h _ (n + 1) ?_ ?_) (by simp [sizeLine, strValues]; omega) (by simp [sizeLine, strValues]; omega)
  · intro b o hb
    have hne : b ≠ l := fun e => by rw [e, hl] at hb; cases hb
    rw [Heap.get?_update_of_ne _ (Ne.symm hne)]
    exact hg b o hb
  · rw [Heap.get?_update_self _ hs rfl]
    simp [Obj.mapSeq, strValues]
theorem slice_wp {M : Model} {A : Around} {E : Value → Shared → Prop} {hh : Heap} {g : Array GenState} {d : Drawn} {tk : Nat} {os : OsState} {Q : Value → Shared → Prop} {text : Array Nat} {b e : Nat} (hz : text.size ≤ 100000) (h : Q (.str ⟨text.extract b e⟩ tk) ⟨hh, g, d, tk + 1, os⟩) : wpAny M A (reSlice text 0 b e) Q E ⟨hh, g, d, tk, os⟩ := by
  refine wpAny_mkStr h ?_
  show (text.extract b e).size ≤ sizeLine
  rw [Array.size_extract, sizeLine_eq]; omega
theorem foldl_len (sep : Str) (h0 : sep.length = 0) : ∀ (ps : List (Str × Tok)) (n : Nat), (ps.map (·.1)).foldl (fun a x => a + x.length + sep.length) n = n + (flat ps).length
  | [], n => by simp [flat]
  | p :: r, n => by
    rw [List.map_cons, List.foldl_cons, foldl_len sep h0 r, h0]
    have : (flat (p :: r)).length = p.1.length + (flat r).length := by
      simp only [flat, List.map_cons, List.flatten_cons, List.length_append, Array.length_toList]; rfl
    omega
theorem foldl_glue (c : Array Nat) (h0 : c = #[]) : ∀ (ps : List (Str × Tok)) (a : Array Nat), (ps.map (·.1)).foldl (fun acc p => acc ++ c ++ p.cps) a = (a.toList ++ flat ps).toArray
  | [], a => by simp [flat]
  | p :: r, a => by
    rw [List.map_cons, List.foldl_cons, foldl_glue c h0 r, h0]
    simp [flat]
theorem join_wp {prog : Program} {w : World} {A : Around} {E : Value → Shared → Prop} {hh : Heap} {g : Array GenState} {d : Drawn} {tk : Nat} {os : OsState} {Q : Value → Shared → Prop} {l : Addr} {ps : List (Str × Tok)} {n : Nat} {text : Array Nat} {t : Tok} (hs : hh.get? l = some (lst (strValues ps) n)) (hz : (flat ps).length ≤ 1000000) (hne : ps ≠ [])
    (h : ∀ tk' tok, Q (.str ⟨(flat ps).toArray⟩ tok) ⟨hh, g, d, tk', os⟩) : wpAny (model prog w) A (call (.builtin (if ((0 : Nat) == 0) = true then "str.join" else "bytes.join")) [.str ⟨text.extract 0 0⟩ t, .ref l]) Q E ⟨hh, g, d, tk, os⟩ := by
  have e0 : (⟨text.extract 0 0⟩ : Str).length = 0 := by show (text.extract 0 0).size = 0; simp
  have e1 : (⟨text.extract 0 0⟩ : Str).cps = #[] := by show text.extract 0 0 = #[]; simp
  refine call_meets PySem.F.slot_str_join (typeIs_str _ _ _) PySem.F.entry_str_join (PySem.F.args_str_join_2 _ _) (meets_str_join_list ⟨text.extract 0 0⟩ t l ps ?_) ⟨⟨_, hs, rfl, _, rfl⟩, ?_⟩
  · rw [List.foldl_toArray, foldl_len _ e0]
    show decide (_ > sizeLine) = false
    rw [sizeLine_eq]; simp; omega
  · cases ps with
    | nil => exact absurd rfl hne
    | cons p r => cases r with
      | nil =>
        have := h tk p.2
        rwa [show (⟨(flat [p]).toArray⟩ : Str) = p.1 by simp [flat]] at this
      | cons q r =>
        have := h (tk + 1) tk
        have e : Builtin.Str.glued ⟨text.extract 0 0⟩ (List.map (·.1) (p :: q :: r)) = ⟨(flat (p :: q :: r)).toArray⟩ := by
          show (⟨((q :: r).map (·.1)).foldl (fun acc x => acc ++ (⟨text.extract 0 0⟩ : Str).cps ++ x.cps) p.1.cps⟩ : Str) = _
          rw [foldl_glue _ e1]
          simp [flat]
        have hlen : (Builtin.Str.glued ⟨text.extract 0 0⟩ (List.map (·.1) (p :: q :: r))).length ≤ sizeLine := by
          rw [e]; show (flat (p :: q :: r)).toArray.size ≤ sizeLine
          rw [List.size_toArray, sizeLine_eq]; omega
        rw [← e] at this
        exact ⟨hlen, this⟩
theorem plain_loop : plainId "re.Pattern.sub.loop" = true := by decide +kernel
theorem entry_loop : entryFor table "re.Pattern.sub.loop" = some Builtin.«re.Pattern.sub.loop» := entryFor_of_fast (by kernel_rfl)
theorem again_wp {prog : Program} {w : World} {A : Around} {R : Result → Shared → Prop} {s : Shared} {args : Args} (h : wpAny (model prog w) A.in1 («re.Pattern.sub.loop» args) (fun fin s' => match fin with | .done f => R (.ok f) s' | .again c' => c'.quiet = true ∧ codeAny (model prog w) A c' R s') (fun e s' => R (.error e) s') s) :
    wpAny (model prog w) A.in1 (again (.builtin "re.Pattern.sub.loop" args)) (fun fin s' => match fin with | .done f => R (.ok f) s' | .again c' => c'.quiet = true ∧ codeAny (model prog w) A c' R s') (fun e s' => R (.error e) s') s :=
  wpAny_pure ⟨plainId_quiet plain_loop _, codeAny_builtin entry_loop (by rw [Around.under_plainId plain_loop args]; exact h)⟩
theorem flat_push (ps : List (Str × Tok)) (x : Str) (u : Tok) : flat (ps ++ [(x, u)]) = flat ps ++ x.cps.toList := by simp [flat]
theorem sub_loop (prog : Program) (w : World) (A : Around) (R : Result → Shared → Prop) {code : Array Nat} {st repl : Str} {t tr : Tok} {find : Nat → Option (Nat × Nat)} {pat l : Addr} {h1 : Heap} (hS : Srch code st.cps find) (hsz : st.cps.size ≤ 100000) (hr : repl.cps.size ≤ 2) (hp : PatAt h1 pat code) (hl : h1.get? l = none) :
    ∀ (k p : Nat), st.cps.size - p < k → p ≤ st.cps.size → ∀ (n : Int) (ps : List (Str × Tok)) (cnt : Nat) (s : Shared), (∀ b o, h1.get? b = some o → s.heap.get? b = some o) → s.heap.get? l = some (lst (strValues ps) cnt) → ps.length ≤ 2 * p → (flat ps).length ≤ 2 * p →
      (∀ h' tk tok, (∀ b o, h1.get? b = some o → h'.get? b = some o) → R (.ok (.ret (.str ⟨(flat ps ++ subL find st.cps repl.cps.toList k p).toArray⟩ tok))) { s with heap := h', toks := tk }) →
      wpAny (model prog w) A.in1 («re.Pattern.sub.loop» ⟨[.ref pat, .str st t, .str repl tr, rawInt 0, rawInt 0, rawInt n, rawInt (p : Int), rawInt (p : Int), .bool false, .ref l, .bool false], []⟩) (fun fin s' => match fin with | .done f => R (.ok f) s' | .again c' => c'.quiet = true ∧ codeAny (model prog w) A c' R s') (fun e s' => R (.error e) s') s := by
  intro k
  induction k with
  | zero => intro p hk; exact absurd hk (Nat.not_lt_zero _)
  | succ k ih =>
    intro p hk hp1 n ps cnt s hg hs hps hfl hR
    have hp' := hp.grown hg
    obtain ⟨hh, g, d, tk, os⟩ := s
    unfold «re.Pattern.sub.loop»
    have hg : ∀ b o, h1.get? b = some o → hh.get? b = some o := hg
    have hs : hh.get? l = some (lst (strValues ps) cnt) := hs
    have hp' : PatAt (⟨hh, g, d, tk, os⟩ : Shared).heap pat code := hp'
    cases hf : find p with
    | none =>
      wp_walk using (target_wp hp'), (found_none hS hp1 hf)
      rw [show subL find st.cps repl.cps.toList (k + 1) p = st.cps.toList.drop p by rw [subL, hf]] at hR
      have fin : ∀ (ps' : List (Str × Tok)) (hh' : Heap) (tk' n' : Nat), (∀ b o, h1.get? b = some o → hh'.get? b = some o) → hh'.get? l = some (lst (strValues ps') n') → (flat ps').length ≤ 1000000 → ps'.length ≤ 1000000 → flat ps' = flat ps ++ st.cps.toList.drop p →
          wpAny (model prog w) A.in1 (do
            let joiner ← reSlice st.cps 0 0 0
            let text ← if ((← seqItems? (.ref l)).getD #[]).isEmpty then pure joiner else call (.builtin (if (0 : Nat) == 0 then "str.join" else "bytes.join")) [joiner, .ref l]
            if false then ret (← holding [text] do newTuple [text, ← mkInt n]) else ret text) (fun fin s' => match fin with | .done f => R (.ok f) s' | .again c' => c'.quiet = true ∧ codeAny (model prog w) A c' R s') (fun e s' => R (.error e) s') ⟨hh', g, d, tk', os⟩ := by
        intro ps' hh' tk' n' hg' hs' hz1 hz2 he
        cases ps' with
        | nil =>
          wp_walk using (slice_wp hsz)
          have := hR hh' (tk' + 1) tk' hg'
          rw [← he] at this
          rw [show (⟨(flat []).toArray⟩ : Str) = ⟨st.cps.extract 0 0⟩ by simp [flat]] at this
          exact this
        | cons x r =>
          wp_walk using (slice_wp hsz), (join_wp hs' hz1 (List.cons_ne_nil _ _))
          intro tk2 tok
          wp_walk
          have := hR hh' tk2 tok hg'
          rw [← he] at this
          exact this
      split
      · wp_walk using (slice_wp hsz), (push_wp hl hg hs (by omega))
        intro h' n' hg' hs'
        have ex : (st.cps.extract p st.cps.size).toList = st.cps.toList.drop p := by rw [Array.toList_extract]; exact List.take_of_length_le (by simp)
        refine fin _ _ _ _ hg' hs' ?_ ?_ ?_
        · rw [flat_push, List.length_append]; show _ + (st.cps.extract p st.cps.size).toList.length ≤ _; rw [ex]; simp; omega
        · simp; omega
        · rw [flat_push]; show _ ++ (st.cps.extract p st.cps.size).toList = _; rw [ex]
      · rename_i hlt
        have hlt : ¬ p < st.cps.size := hlt
        exact fin _ _ _ _ hg hs (by omega) (by omega) (by rw [List.drop_eq_nil_of_le (by simp; omega), List.append_nil])
    | some ij =>
      obtain ⟨i, j⟩ := ij
      obtain ⟨r1, r2, r3⟩ := hS.rng hp1 hf
      wp_walk using (target_wp hp'), (found_some hS hp1 hf)
      rw [show subL find st.cps repl.cps.toList (k + 1) p = (st.cps.extract p i).toList ++ (repl.cps.toList ++ subL find st.cps repl.cps.toList k j) by rw [subL, hf]] at hR
      intro m' e1 e2
      wp_walk
      split
      · wp_walk using (slice_wp hsz), (push_wp hl hg hs (by omega))
        intro h' n' hg' hs'
        wp_walk using (push_wp hl hg' hs' (by simp; omega))
        intro h2 n2 hg2 hs2
        refine again_wp ?_
        rw [e1, show (m'.handed == i) = false by rw [e2]; simp; omega, e2] at *
        have hex : (st.cps.extract p i).toList.length = i - p := by simp; omega
        refine ih j (by omega) r3 (n + 1) _ n2 _ hg2 hs2 (by simp; omega) ?_ ?_
        · rw [flat_push, flat_push, List.length_append, List.length_append]; show _ + (st.cps.extract p i).toList.length + repl.cps.toList.length ≤ _; rw [hex]; simp; omega
        · intro h3 tk3 tok3 hg3
          have := hR h3 tk3 tok3 hg3
          rw [flat_push, flat_push]
          show R (.ok (.ret (.str ⟨(flat ps ++ (st.cps.extract p i).toList ++ repl.cps.toList ++ subL find st.cps repl.cps.toList k j).toArray⟩ tok3))) _
          rw [List.append_assoc, List.append_assoc]; exact this
      · rename_i hlt
        have hlt : ¬ p < m'.start := hlt
        wp_walk using (push_wp hl hg hs (by omega))
        intro h2 n2 hg2 hs2
        refine again_wp ?_
        rw [e1] at hlt
        have hpi : i = p := by omega
        rw [e1, show (m'.handed == i) = false by rw [e2]; simp; omega, e2]
        refine ih j (by omega) r3 (n + 1) _ n2 _ hg2 hs2 (by simp; omega) ?_ ?_
        · rw [flat_push, List.length_append]; simp; omega
        · intro h3 tk3 tok3 hg3
          have := hR h3 tk3 tok3 hg3
          rw [hpi, show (st.cps.extract p p).toList = [] by simp, List.nil_append] at this
          rw [flat_push, List.append_assoc]; exact this
end Mine
end
section
open PySem PySem.W PyProof.Rows PySem.Calls PySem.Spec PySem.Builtin PySem.Builtin.Re
set_option Elab.async false
set_option maxRecDepth 100000
set_option maxHeartbeats 400000
namespace Mine
theorem plainAttrs_pat : PlainAttrs "re.Pattern" :=
  ⟨⟨"object.__getattribute__", by rw [typeLookup_type, builtinLookup_eq_fast]; kernel_rfl, by decide +kernel⟩, by rw [typeLookup_type, builtinLookup_eq_fast]; kernel_rfl⟩
theorem slot_sub : Slot "re.Pattern" "sub" "re.Pattern.sub" :=
  .of (owner := "re.Pattern") (n := "sub") (by rw [typeLookup_type, builtinLookup_eq_fast]; kernel_rfl) (by decide +kernel) (by decide +kernel) (by decide +kernel)
    (by first | exact .inl (by decide +kernel) | exact .inr (by decide +kernel)) (by rw [isSubtype_type]; kernel_rfl)
theorem type_sub : typeOf (.builtin "re.Pattern.sub") = pure (.type "method_descriptor") := by show builtinType _ = _; rw [builtinType_eq_fast]; kernel_rfl
theorem entry_sub : entryFor table "re.Pattern.sub" = some Builtin.«re.Pattern.sub» := entryFor_of_fast (by kernel_rfl)
theorem owner_pat : Manifest.owners.lookup (String.ofList ['n', 'r', 'e', 't', 't', 'a', 'P', '.', 'e', 'r'].reverse) = some Manifest.sig_re_Pattern := by kernel_rfl
theorem args_sub (a b c : Value) : argsOk "re.Pattern.sub" ⟨[a, b, c], []⟩ := by
  unfold argsOk; rw [signature?_of (id := "re.Pattern.sub") (n := ['b', 'u', 's']) (o := ['n', 'r', 'e', 't', 't', 'a', 'P', '.', 'e', 'r']) (by kernel_rfl) owner_pat]; kernel_rfl
theorem getMethod_sub {M : Model} {A : Around} {E : Value → Shared → Prop} {s : Shared} {pat : Addr} {code : Array Nat} {pl : Sem Bool} {Q : Value × List Value → Shared → Prop} (hp : PatAt s.heap pat code) (h : Q (.builtin "re.Pattern.sub", [.ref pat]) s) : wpAny M A (getMethod (.ref pat) "sub" pl) Q E s := by
  obtain ⟨ct, x0, x1, x3, x4, ci, h1, h2, h3⟩ := hp
  exact getMethod_builtin ⟨_, h1, rfl⟩ plainAttrs_pat slot_sub type_sub (fun a e => by cases e; exact ⟨_, h1, rfl⟩) h
theorem named_sub (a b : Value) : reNamed "re.Pattern.sub" "sub" ["repl", "string", "count"] 2 [a, b] [] = pure [some a, some b, none] := by with_unfolding_all rfl
theorem noCall_str {M : Model} {A : Around} {E : Value → Shared → Prop} {s : Shared} {Q : Option Value → Shared → Prop} (x : Str) (t : Tok) (h : Q none s) : wpAny M A (specialOf (.str x t) "__call__") Q E s :=
  wpAny_specialOf (typeIs_str _ _ _) (by rw [typeLookup_type, builtinLookup_eq_fast]; kernel_rfl) h
theorem meets_sub {pat : Addr} {code : Array Nat} {st repl : Str} {t tr : Tok} {find : Nat → Option (Nat × Nat)} (hS : Srch code st.cps find) (hsz : st.cps.size ≤ 100000) (hr : repl.cps.size ≤ 2) (hb : repl.cps.contains 92 = false) :
    Meets («re.Pattern.sub» ⟨[.ref pat, .str repl tr, .str st t], []⟩) (fun _ R s => PatAt s.heap pat code ∧ ∀ h' tk tok, (∀ b o, s.heap.get? b = some o → h'.get? b = some o) → R (.ok (.ret (.str ⟨(subL find st.cps repl.cps.toList (st.cps.size + 1) 0).toArray⟩ tok))) { s with heap := h', toks := tk }) := by
  rintro prog w A R ⟨hh, g, d, tk, os⟩ ⟨hp, h⟩
  unfold «re.Pattern.sub» reSubstitute
  wp_walk using (wpAny_of_eq (named_sub _ _)), (noCall_str repl tr)
  rw [hb]
  wp_walk using (target_wp hp)
  refine ⟨plainId_quiet plain_loop _, codeAny_builtin entry_loop ?_⟩
  rw [Around.under_plainId plain_loop _]
  have hg : ∀ b o, hh.get? b = some o → (hh.push { cls := Value.type "list", data := Data.seq #[] }).get? b = some o := fun b o e => Heap.get?_push_of_some _ e
  exact sub_loop prog w A R hS hsz hr hp (Heap.get?_none_of_le (Nat.le_refl _)) (st.cps.size + 1) 0 (by omega) (Nat.zero_le _) 0 [] 0 _ hg (Heap.get?_push_size _ rfl) (by simp) (by simp [flat]) fun h' tk' tok hg' => h h' tk' tok hg'
theorem sub_wp {prog : Program} {w : World} {A : Around} {E : Value → Shared → Prop} {s : Shared} {Q : Value → Shared → Prop} {pat : Addr} {code : Array Nat} {st repl : Str} {t tr : Tok} {find : Nat → Option (Nat × Nat)} (hp : PatAt s.heap pat code) (hS : Srch code st.cps find) (hsz : st.cps.size ≤ 100000) (hr : repl.cps.size ≤ 2) (hb : repl.cps.contains 92 = false)
    (h : ∀ h' tk tok, (∀ b o, s.heap.get? b = some o → h'.get? b = some o) → Q (.str ⟨(subL find st.cps repl.cps.toList (st.cps.size + 1) 0).toArray⟩ tok) { s with heap := h', toks := tk }) :
    wpAny (model prog w) A (call (.builtin "re.Pattern.sub") [.ref pat, .str repl tr, .str st t]) Q E s := by
  have hT : s.TypeIs (.ref pat) "re.Pattern" := by obtain ⟨ct, x0, x1, x3, x4, ci, h1, h2, h3⟩ := hp; exact ⟨_, h1, rfl⟩
  exact call_meets slot_sub hT entry_sub (args_sub _ _ _) (meets_sub hS hsz hr hb) ⟨hp, h⟩
noncomputable def find1F (text : Array Nat) (p : Nat) : Option (Nat × Nat) := (f1 (bol text p) (text.toList.drop p)).map fun i => (p + i, p + i + 1)
noncomputable def find2F (text : Array Nat) (p : Nat) : Option (Nat × Nat) := (f0 (text.toList.drop p)).map fun i => (p + i, p + i + w2 (text.toList.drop p) i)
theorem f1_lt : ∀ (b : Bool) (l : List Nat) (i : Nat), f1 b l = some i → i < l.length
  | _, [], i, h => by simp [f1] at h
  | b, c :: r, i, h => by
    rw [f1] at h
    split at h
    · cases h; simp
    · cases hr : f1 (c == 10) r with
      | none => rw [hr] at h; cases h
      | some j => rw [hr] at h; cases h; have := f1_lt _ _ _ hr; simp; omega
theorem w2_le (l : List Nat) (i : Nat) (h : i < l.length) : i + w2 l i ≤ l.length ∧ 1 ≤ w2 l i := by
  unfold w2
  split
  · rename_i hc
    refine ⟨?_, by omega⟩
    rcases Nat.lt_or_ge (i + 1) l.length with h1 | h1
    · omega
    · have := hc.2
      rw [List.getD, List.getElem?_eq_none h1] at this; simp at this
  · omega
theorem srch1 (text : Array Nat) (hz : text.size ≤ 100000) : Srch code1 text (find1F text) := by
  intro p hp
  obtain ⟨m', e1, e2⟩ := searchOne text p hp
  refine ⟨m', _, ?_, e1, ?_⟩
  · omega
  · unfold find1F
    cases hf : f1 (bol text p) (text.toList.drop p) with
    | none => rw [hf] at e2; exact e2
    | some i =>
      rw [hf] at e2
      have := f1_lt _ _ _ hf
      simp at this
      exact ⟨e2.1, e2.2.1, e2.2.2, by omega, by omega, by omega⟩
theorem srch2 (text : Array Nat) : Srch code2 text (find2F text) := by
  intro p hp
  obtain ⟨m', e1, e2⟩ := search2 text p hp
  refine ⟨m', _, by omega, e1, ?_⟩
  unfold find2F
  cases hf : f0 (text.toList.drop p) with
  | none => rw [hf] at e2; exact e2
  | some i =>
    rw [hf] at e2
    have h1 := (f0_spec _ _ hf).1
    have h2 := w2_le _ _ h1
    have h3 : (text.toList.drop p).length = text.size - p := by simp
    exact ⟨e2.1, e2.2.1, e2.2.2, by omega, by omega, by omega⟩
/-- a dot more at each row's start -/
noncomputable def dots : Bool → List Nat → List Nat
  | _, [] => []
  | b, c :: r => if b = true ∧ c = 46 then 46 :: 46 :: dots false r else c :: dots (c == 10) r
theorem dots_f1 : ∀ (b : Bool) (l : List Nat), dots b l = match f1 b l with | none => l | some i => l.take i ++ ([46, 46] ++ dots false (l.drop (i + 1)))
  | _, [] => rfl
  | b, c :: r => by
    rw [dots, f1]
    by_cases h : b = true ∧ c = 46
    · rw [if_pos h, if_pos h]; rfl
    · rw [if_neg h, if_neg h, dots_f1 (c == 10) r]
      cases f1 (c == 10) r <;> rfl
theorem f1_46 : ∀ (b : Bool) (l : List Nat) (i : Nat), f1 b l = some i → l.getD i 0 = 46
  | _, [], i, h => by simp [f1] at h
  | b, c :: r, i, h => by
    rw [f1] at h
    split at h
    · rename_i hc; cases h; simpa using hc.2
    · cases hr : f1 (c == 10) r with
      | none => rw [hr] at h; cases h
      | some j => rw [hr] at h; cases h; simpa using f1_46 _ _ _ hr
theorem sub1 (text : Array Nat) : ∀ (k p : Nat), text.size - p < k → p ≤ text.size → subL (find1F text) text [46, 46] k p = dots (bol text p) (text.toList.drop p)
  | 0, p, h, _ => absurd h (Nat.not_lt_zero _)
  | k + 1, p, h, hp => by
    rw [subL, dots_f1]
    unfold find1F
    cases hf : f1 (bol text p) (text.toList.drop p) with
    | none => rfl
    | some i =>
      have hi := f1_lt _ _ _ hf
      have h3 : (text.toList.drop p).length = text.size - p := by simp
      show (text.extract p (p + i)).toList ++ ([46, 46] ++ subL (find1F text) text [46, 46] k (p + i + 1)) = _
      rw [sub1 text k (p + i + 1) (by omega) (by omega)]
      have hc : bol text (p + i + 1) = false := by
        have := f1_46 _ _ _ hf
        rw [← getD_of_lt rfl i] at this
        unfold bol
        rw [show p + i + 1 - 1 = p + i by omega, this]; simp
      rw [hc, Array.toList_extract]
      show List.take (p + i - p) (List.drop p text.toList) ++ _ = _
      show _ = List.take i (List.drop p text.toList) ++ ([46, 46] ++ dots false (List.drop (i + 1) (List.drop p text.toList)))
      rw [List.drop_drop, show p + i - p = i by omega, show p + (i + 1) = p + i + 1 by omega]
/-- each row's end made a return and a feed -/
noncomputable def norm : List Nat → List Nat
  | [] => []
  | [c] => if c = 10 ∨ c = 13 then [13, 10] else [c]
  | c :: d :: r => if c = 13 ∧ d = 10 then 13 :: 10 :: norm r else if c = 10 ∨ c = 13 then 13 :: 10 :: norm (d :: r) else c :: norm (d :: r)
theorem norm_f0 : ∀ (l : List Nat), norm l = match f0 l with | none => l | some i => l.take i ++ ([13, 10] ++ norm (l.drop (i + w2 l i)))
  | [] => rfl
  | [c] => by
    rw [norm, f0]
    by_cases h : c = 10 ∨ c = 13
    · rw [if_pos h, if_pos h]; simp [w2, norm]
    · rw [if_neg h, if_neg h]; rfl
  | c :: d :: r => by
    rw [norm, f0]
    by_cases h1 : c = 13 ∧ d = 10
    · rw [if_pos h1, if_pos (.inr h1.1)]
      simp [w2, h1.1, h1.2]
    · rw [if_neg h1]
      by_cases h : c = 10 ∨ c = 13
      · rw [if_pos h, if_pos h]
        simp [w2, h1]
      · rw [if_neg h, if_neg h, norm_f0 (d :: r)]
        cases hf : f0 (d :: r) with
        | none => rfl
        | some i =>
          show c :: (List.take i (d :: r) ++ ([13, 10] ++ norm (List.drop (i + w2 (d :: r) i) (d :: r)))) = List.take (i + 1) (c :: d :: r) ++ ([13, 10] ++ norm (List.drop (i + 1 + w2 (c :: d :: r) (i + 1)) (c :: d :: r)))
          have e : w2 (c :: d :: r) (i + 1) = w2 (d :: r) i := rfl
          rw [e, show i + 1 + w2 (d :: r) i = (i + w2 (d :: r) i) + 1 by omega]
          rfl
theorem sub2 (text : Array Nat) : ∀ (k p : Nat), text.size - p < k → p ≤ text.size → subL (find2F text) text [13, 10] k p = norm (text.toList.drop p)
  | 0, p, h, _ => absurd h (Nat.not_lt_zero _)
  | k + 1, p, h, hp => by
    rw [subL, norm_f0]
    unfold find2F
    cases hf : f0 (text.toList.drop p) with
    | none => rfl
    | some i =>
      have hi := (f0_spec _ _ hf).1
      have hw := w2_le _ _ hi
      have h3 : (text.toList.drop p).length = text.size - p := by simp
      show (text.extract p (p + i)).toList ++ ([13, 10] ++ subL (find2F text) text [13, 10] k (p + i + w2 (text.toList.drop p) i)) = List.take i (List.drop p text.toList) ++ ([13, 10] ++ norm (List.drop (i + w2 (text.toList.drop p) i) (List.drop p text.toList)))
      rw [sub2 text k _ (by omega) (by omega), Array.toList_extract, List.drop_drop]
      show List.take (p + i - p) (List.drop p text.toList) ++ _ = _
      rw [ show p + i - p = i by omega, show p + (i + w2 (text.toList.drop p) i) = p + i + w2 (text.toList.drop p) i by omega]
theorem dots_len : ∀ (b : Bool) (l : List Nat), (dots b l).length ≤ 2 * l.length
  | _, [] => by simp [dots]
  | b, c :: r => by
    rw [dots]
    split
    · have := dots_len false r; simp; omega
    · have := dots_len (c == 10) r; simp; omega
theorem norm_len : ∀ (l : List Nat), (norm l).length ≤ 2 * l.length
  | [] => by simp [norm]
  | [c] => by rw [norm]; split <;> simp
  | c :: d :: r => by
    rw [norm]
    split
    · have := norm_len r; simp; omega
    · split
      · have := norm_len (d :: r); simp at this ⊢; omega
      · have := norm_len (d :: r); simp at this ⊢; omega
noncomputable def quote (l : List Nat) : List Nat := dots true (norm l)
end Mine
end
section
open PySem PySem.W PyProof.Rows PySem.Calls PySem.Spec PySem.Builtin
set_option Elab.async false
set_option maxRecDepth 100000
set_option maxHeartbeats 400000
namespace Mine
/-- no end of a row in it -/
noncomputable def Plain (r : List Nat) : Prop := ∀ x ∈ r, x ≠ 10 ∧ x ≠ 13
/-- rows with their ends, and the last row -/
noncomputable def textOf : List (List Nat × List Nat) → List Nat → List Nat
  | [], l => l
  | p :: rest, l => p.1 ++ (p.2 ++ textOf rest l)
noncomputable def RowOk (r : List Nat) : Prop := ∃ more, r = 46 :: more ∧ Plain more
noncomputable def EndOk (e : List Nat) : Prop := e = [10] ∨ e = [13] ∨ e = [13, 10]
noncomputable def TextOk (rs : List (List Nat × List Nat)) (l : List Nat) : Prop := (∀ p ∈ rs, RowOk p.1 ∧ EndOk p.2) ∧ RowOk l
theorem RowOk.plain {r : List Nat} (h : RowOk r) : Plain r := by
  obtain ⟨m, rfl, hm⟩ := h
  intro x hx
  rcases List.mem_cons.mp hx with rfl | hx
  · exact ⟨by decide, by decide⟩
  · exact hm x hx
theorem RowOk.dot {r : List Nat} (h : RowOk r) : RowOk (46 :: r) := ⟨r, rfl, h.plain⟩
theorem textOf_head {rs : List (List Nat × List Nat)} {l : List Nat} (h : TextOk rs l) : ∃ s, textOf rs l = 46 :: s := by
  cases rs with
  | nil => obtain ⟨m, rfl, _⟩ := h.2; exact ⟨m, rfl⟩
  | cons p rest =>
    obtain ⟨m, e, _⟩ := (h.1 p (.head _)).1
    exact ⟨m ++ (p.2 ++ textOf rest l), by rw [textOf, e]; rfl⟩
theorem norm_cons {c : Nat} (h : c ≠ 10 ∧ c ≠ 13) (s : List Nat) : norm (c :: s) = c :: norm s := by
  cases s with
  | nil => show (if c = 10 ∨ c = 13 then [13, 10] else [c]) = _; rw [if_neg (by omega)]; rfl
  | cons d r => rw [norm, if_neg (by omega), if_neg (by omega)]
theorem norm_plain : ∀ (r : List Nat) (s : List Nat), Plain r → norm (r ++ s) = r ++ norm s
  | [], _, _ => rfl
  | c :: r, s, h => by
    rw [List.cons_append, norm_cons (h c (.head _)), norm_plain r s fun x hx => h x (.tail _ hx), List.cons_append]
theorem norm_end {e : List Nat} (h : EndOk e) {s : List Nat} : norm (e ++ 46 :: s) = [13, 10] ++ norm (46 :: s) := by
  rcases h with rfl | rfl | rfl
  · rw [List.cons_append, List.nil_append, norm, if_neg (by omega), if_pos (by omega)]; rfl
  · rw [List.cons_append, List.nil_append, norm, if_neg (by omega), if_pos (by omega)]; rfl
  · rw [List.cons_append, List.cons_append, List.nil_append, norm, if_pos (by omega)]; rfl
noncomputable def crlf (rs : List (List Nat × List Nat)) : List (List Nat × List Nat) := rs.map fun p => (p.1, [13, 10])
theorem norm_text : ∀ (rs : List (List Nat × List Nat)) (l : List Nat), TextOk rs l → norm (textOf rs l) = textOf (crlf rs) l
  | [], l, h => by
    have := norm_plain l [] h.2.plain
    simpa [norm, textOf, crlf] using this
  | p :: rest, l, h => by
    have h' : TextOk rest l := ⟨fun q hq => h.1 q (.tail _ hq), h.2⟩
    obtain ⟨s, e⟩ := textOf_head h'
    rw [textOf, norm_plain _ _ (h.1 p (.head _)).1.plain, e, norm_end (h.1 p (.head _)).2, ← e, norm_text rest l h']
    rfl
theorem dots_plain : ∀ (m : List Nat) (s : List Nat), Plain m → dots false (m ++ s) = m ++ dots false s
  | [], _, _ => rfl
  | c :: m, s, h => by
    rw [List.cons_append, dots, if_neg (by simp), show (c == 10) = false from beq_eq_false_iff_ne.mpr (h c (.head _)).1, dots_plain m s fun x hx => h x (.tail _ hx), List.cons_append]
theorem dots_text : ∀ (rs : List (List Nat × List Nat)) (l : List Nat), (∀ p ∈ rs, RowOk p.1) → RowOk l → dots true (textOf (crlf rs) l) = textOf ((crlf rs).map fun p => (46 :: p.1, p.2)) (46 :: l)
  | [], l, _, h => by
    obtain ⟨m, rfl, hm⟩ := h
    show dots true (46 :: m) = 46 :: 46 :: m
    rw [dots, if_pos ⟨rfl, rfl⟩]
    have := dots_plain m [] hm
    rw [List.append_nil] at this
    rw [this, dots, List.append_nil]
  | p :: rest, l, h, hl => by
    obtain ⟨m, e, hm⟩ := h p (.head _)
    have ih := dots_text rest l (fun q hq => h q (.tail _ hq)) hl
    show dots true (p.1 ++ (13 :: 10 :: textOf (crlf rest) l)) = (46 :: p.1) ++ (13 :: 10 :: textOf ((crlf rest).map fun p => (46 :: p.1, p.2)) (46 :: l))
    rw [e, List.cons_append, dots, if_pos ⟨rfl, rfl⟩, dots_plain m _ hm, dots, if_neg (by simp), show ((13 : Nat) == 10) = false from rfl, dots, if_neg (by simp), show ((10 : Nat) == 10) = true from rfl, ih]
    rfl
theorem quote_text {rs : List (List Nat × List Nat)} {l : List Nat} (h : TextOk rs l) : quote (textOf rs l) = textOf (rs.map fun p => (46 :: p.1, [13, 10])) (46 :: l) := by
  rw [quote, norm_text rs l h, dots_text rs l (fun p hp => (h.1 p hp).1) h.2, crlf, List.map_map]
  rfl
noncomputable def quoteN : Nat → List Nat → List Nat
  | 0, l => l
  | k + 1, l => quoteN k (quote l)
theorem quoteN_succ : ∀ (k : Nat) (l : List Nat), quoteN (k + 1) l = quote (quoteN k l)
  | 0, _ => rfl
  | k + 1, l => by rw [quoteN, quoteN_succ k (quote l)]; rfl
noncomputable def dotN (k : Nat) (r : List Nat) : List Nat := List.replicate k 46 ++ r
theorem TextOk.quoted {rs : List (List Nat × List Nat)} {l : List Nat} (h : TextOk rs l) : TextOk (rs.map fun p => (46 :: p.1, [13, 10])) (46 :: l) :=
  ⟨fun p hp => by
    obtain ⟨q, hq, rfl⟩ := List.mem_map.mp hp
    exact ⟨(h.1 q hq).1.dot, .inr (.inr rfl)⟩, h.2.dot⟩
theorem rep_dot (k : Nat) (r : List Nat) : List.replicate k 46 ++ 46 :: r = List.replicate (k + 1) 46 ++ r := by
  induction k with
  | zero => rfl
  | succ k ih => rw [List.replicate_succ, List.cons_append, ih, List.replicate_succ (n := k + 1), List.cons_append]
theorem quoteN_text : ∀ (k : Nat) (rs : List (List Nat × List Nat)) (l : List Nat), TextOk rs l → quoteN (k + 1) (textOf rs l) = textOf (rs.map fun p => (dotN (k + 1) p.1, [13, 10])) (dotN (k + 1) l)
  | 0, rs, l, h => by rw [quoteN, quoteN, quote_text h]; rfl
  | k + 1, rs, l, h => by
    rw [quoteN, quote_text h, quoteN_text k _ _ h.quoted, List.map_map]
    have e : ∀ r : List Nat, dotN (k + 1) (46 :: r) = dotN (k + 1 + 1) r := fun r => rep_dot (k + 1) r
    rw [e]
    congr 1
    exact List.map_congr_left fun p _ => by show (dotN (k + 1) (46 :: p.1), _) = _; rw [e]
/-- the places of CRLF -/
noncomputable def cutsL : List Nat → Nat → List Nat
  | [], _ => []
  | c :: r, i => if c = 13 ∧ r.head? = some 10 then i :: cutsL r (i + 1) else cutsL r (i + 1)
theorem cuts_plain : ∀ (r : List Nat) (s : List Nat) (i : Nat), Plain r → cutsL (r ++ s) i = cutsL s (i + r.length)
  | [], _, _, _ => rfl
  | c :: r, s, i, h => by
    rw [List.cons_append, cutsL, if_neg (fun q => (h c (.head _)).2 q.1), cuts_plain r s (i + 1) fun x hx => h x (.tail _ hx), List.length_cons]
    congr 1; omega
theorem cuts_end (s : List Nat) (i : Nat) : cutsL (13 :: 10 :: s) i = i :: cutsL s (i + 2) := by
  rw [cutsL, if_pos ⟨rfl, rfl⟩, cutsL, if_neg (by simp)]
noncomputable abbrev CRLF : Str := Str.ofString "\r\n"
theorem crlf_cps : CRLF.cps = #[13, 10] := by decide +kernel
theorem subAt_crlf (x : Str) (i : Nat) (c : Nat) (r : List Nat) (e : x.cps.toList.drop i = c :: r) : Str.subAt x CRLF i = decide (c = 13 ∧ r.head? = some 10) := by
  rw [StrLaws.subAt_eq, e]
  have h2 : CRLF.length = 2 := by decide +kernel
  rw [h2, crlf_cps]
  cases r with
  | nil => simp
  | cons d r =>
    show ([c, d] == [13, 10]) = _
    by_cases h1 : c = 13 <;> by_cases h2 : d = 10 <;> simp [h1, h2]
theorem occ_aux (x : Str) : ∀ (l : List Nat) (i : Nat) (found : Array Nat) (free : Nat), x.cps.toList.drop i = l → found.size ≤ i → (free ≤ i ∨ (free = i + 1 ∧ l.head? ≠ some 13)) →
    (forIn (List.range' i (l.length + 1)) (found, free) (StrLaws.occBody x CRLF x.length (x.length + 1))).run.fst.toList = found.toList ++ cutsL l i
  | [], i, found, free, e, h1, h2 => by
    have hl : x.length ≤ i := by
      have := List.drop_eq_nil_iff.mp e
      simpa [Str.length] using this
    have h2 : CRLF.length = 2 := by decide +kernel
    rw [show List.range' i (([] : List Nat).length + 1) = [i] from rfl, List.forIn_cons]
    unfold StrLaws.occBody
    rw [if_neg (by rw [h2]; rintro ⟨⟨_, h⟩, _⟩; omega)]
    simp [cutsL]
  | c :: r, i, found, free, e, h1, h2 => by
    have hlen : x.length = i + (r.length + 1) := by
      have := congrArg List.length e
      simp only [List.length_drop, List.length_cons, Array.length_toList] at this
      have h3 : x.length = x.cps.size := rfl
      omega
    have h22 : CRLF.length = 2 := by decide +kernel
    have e' : x.cps.toList.drop (i + 1) = r := by rw [← List.drop_drop, e]; rfl
    have hs := subAt_crlf x i c r e
    rw [show (c :: r).length + 1 = (r.length + 1) + 1 from rfl, List.range'_succ, List.forIn_cons, cutsL]
    have body : StrLaws.occBody x CRLF x.length (x.length + 1) i (found, free) = pure (ForInStep.yield (if c = 13 ∧ r.head? = some 10 then (found.push i, i + 2) else (found, free))) := by
      unfold StrLaws.occBody
      by_cases hc : c = 13 ∧ r.head? = some 10
      · have hr : 1 ≤ r.length := by cases r with
          | nil => simp at hc
          | cons d r => simp
        have hf : free ≤ i := by
          rcases h2 with h2 | ⟨_, h2⟩
          · exact h2
          · exact absurd (by simp [hc.1]) h2
        rw [if_pos ⟨⟨⟨by dsimp only; omega, hf⟩, by rw [h22]; omega⟩, by rw [hs]; exact decide_eq_true hc⟩, if_pos hc, h22]
      · rw [if_neg (by rintro ⟨_, h⟩; rw [hs] at h; exact hc (of_decide_eq_true h)), if_neg hc]
    rw [body]
    by_cases hc : c = 13 ∧ r.head? = some 10
    · rw [if_pos hc, if_pos hc]
      have ih := occ_aux x r (i + 1) (found.push i) (i + 2) e' (by simp; omega) (.inr ⟨rfl, by rw [hc.2]; simp⟩)
      simp only [pure_bind]
      rw [ih]
      simp
    · rw [if_neg hc, if_neg hc]
      have ih := occ_aux x r (i + 1) found free e' (by omega) (by
        rcases h2 with h2 | ⟨h2, h3⟩
        · exact .inl (by omega)
        · exact .inl (by omega))
      simp only [pure_bind]
      rw [ih]
theorem occ_crlf (x : Str) : Str.occurrences x CRLF 0 x.length (x.length + 1) = cutsL x.cps.toList 0 := by
  rw [StrLaws.occ_eq]
  have := occ_aux x x.cps.toList 0 #[] 0 rfl (Nat.zero_le _) (.inl (Nat.le_refl _))
  rw [Array.length_toList] at this
  simpa [Str.length] using this
noncomputable def strOf (l : List Nat) : Str := ⟨l.toArray⟩
theorem sub_mid (x : Str) (p r s : List Nat) (e : x.cps.toList = p ++ (r ++ s)) : Str.strSub x p.length (p.length + r.length) = strOf r := by
  have h : (Str.strSub x p.length (p.length + r.length)).cps.toList = r := by
    rw [StrLaws.strSub_toList, e, List.drop_left, Nat.add_sub_cancel_left, List.take_left]
  exact congrArg Str.mk (Array.toList_inj.mp h)
theorem parts_text (x : Str) : ∀ (rs : List (List Nat × List Nat)) (l p : List Nat), x.cps.toList = p ++ textOf (crlf rs) l → (∀ q ∈ rs, Plain q.1) → Plain l →
    StrLaws.partsFrom x 2 p.length (cutsL (textOf (crlf rs) l) p.length) = rs.map (fun q => strOf q.1) ++ [strOf l]
  | [], l, p, e, _, hl => by
    have hc := cuts_plain l [] p.length hl
    rw [List.append_nil] at hc
    have hx : x.length = p.length + l.length := by
      have := congrArg List.length e
      simpa [textOf, crlf, Str.length] using this
    show StrLaws.partsFrom x 2 p.length (cutsL l p.length) = [strOf l]
    rw [hc, cutsL, StrLaws.partsFrom, hx, sub_mid x p l [] (by rw [List.append_nil]; exact e)]
  | q :: rs, l, p, e, h, hl => by
    have e1 : textOf (crlf (q :: rs)) l = q.1 ++ (13 :: 10 :: textOf (crlf rs) l) := rfl
    rw [e1] at e ⊢
    rw [cuts_plain _ _ _ (h q (.head _)), cuts_end, StrLaws.partsFrom, sub_mid x p q.1 _ e]
    have ih := parts_text x rs l (p ++ q.1 ++ [13, 10]) (by rw [e]; simp) (fun r hr => h r (.tail _ hr)) hl
    have hlen : (p ++ q.1 ++ [13, 10]).length = p.length + q.1.length + 2 := by simp only [List.length_append, List.length_cons, List.length_nil]
    rw [hlen] at ih
    rw [ih]
    rfl
theorem split_text {rs : List (List Nat × List Nat)} {l : List Nat} (h : ∀ q ∈ rs, Plain q.1) (hl : Plain l) (hne : rs ≠ []) : Txt.split (strOf (textOf (crlf rs) l)) CRLF = rs.map (fun q => strOf q.1) ++ [strOf l] := by
  have hx : (strOf (textOf (crlf rs) l)).cps.toList = textOf (crlf rs) l := rfl
  have hp := parts_text (strOf (textOf (crlf rs) l)) rs l [] hx h hl
  have ho := occ_crlf (strOf (textOf (crlf rs) l))
  rw [hx] at ho
  have h2 : CRLF.length = 2 := by decide +kernel
  have hk : Str.strKind CRLF = 1 := by decide +kernel
  obtain ⟨q, r, rfl⟩ : ∃ q r, rs = q :: r := by
    cases rs with
    | nil => exact absurd rfl hne
    | cons q r => exact ⟨q, r, rfl⟩
  have e1 : textOf (crlf (q :: r)) l = q.1 ++ (13 :: 10 :: textOf (crlf r) l) := rfl
  have hlen : 2 ≤ (strOf (textOf (crlf (q :: r)) l)).length := by
    show 2 ≤ (textOf (crlf (q :: r)) l).toArray.size
    rw [List.size_toArray, e1]
    simp only [List.length_append, List.length_cons]; omega
  have hk1 : 1 ≤ Str.strKind (strOf (textOf (crlf (q :: r)) l)) := by
    unfold Str.strKind
    split
    · exact Nat.le_refl _
    · split <;> omega
  have hcut : cutsL (textOf (crlf (q :: r)) l) 0 ≠ [] := by
    rw [e1, cuts_plain _ _ _ (h q (.head _)), cuts_end]
    simp
  unfold Txt.split
  rw [if_neg (by rw [h2, hk]; simp only [Bool.or_eq_true, decide_eq_true_eq]; omega), ho, if_neg (by rw [List.isEmpty_iff]; exact hcut), StrLaws.partsBetween_eq, h2]
  exact hp
end Mine
end
section
open PySem PySem.W PyProof.Rows PySem.Calls PySem.Spec
set_option Elab.async false
set_option maxRecDepth 100000
set_option maxHeartbeats 8000000
namespace Mine
noncomputable abbrev lo0 : List Str := looseW hd.view_39 [Str.ofString "insort_right", Str.ofString "bisect_right", Str.ofString "insort_left", Str.ofString "bisect_left", Str.ofString "_twin_re_1", Str.ofString "_twin_re_2"]
noncomputable abbrev loose0 : List Str := lo0 ++ List.map (fun x => x.name) (recsOf hd.view_39) ++ List.map (fun x => x.fst) (litsOf hd.view_39) ++ List.map (fun x => x.name) (clssOf hd.view_39 lo0)
noncomputable abbrev Led := List (Addr × Obj)
/-- what a call of the text's def at f does: from any frame, with the ledger `news`, it comes back with r and the ledger news' as R says -/
noncomputable abbrev Con (prog : Program) (w : World) (K : Frag) (mean : ExcName → Option Value) (mg mb : Str → Option Value) (f : Addr) (args : List Value) (news : Led) (D U : Nat) (R : Value → Led → Prop) : Prop :=
  ∀ (dp un : Nat) (gd : Option (List Code)) (cn : Str) (cs : Scope) (a : Addr) (ccd : Value) (cl : List (Str × Addr)) (outer : List Env) (A₀ : Around) (base h₀ : Heap) (L : Addr) (m : Str → Option Value) (s : Shared) (Q E : Value → Shared → Prop),
    CodeHd base 51 47 → CodeHd base 58 54 → CodeHd base 130 128 → Below A₀ base outer h₀ → Fr h₀ L s.heap m → K.In h₀ → News h₀ L s.heap news → Top topProg loose0 mean mg mb h₀ → cs.kind = .function → dp + D < recursionLimit → un + U < cLine →
    (∀ (r : Value) (news' : Led) (h' : Heap) (tk' : Nat), R r news' → Fr h₀ L h' m → News h₀ L h' news' → Q r { s with heap := h', toks := tk' }) →
    wpAny (model prog w) (ktrTop dp un gd cn cs L a ccd cl outer) (call (.ref f) args) Q E s
/-- the end of a while's turn, and what is asked behind the body -/
noncomputable def WEnd {σ : Type} (h₀ : Heap) (L : Addr) (s : Shared) (LL : σ → Led) (ps : σ → List (Str × Value)) (stored : List Str) (m₀ : Str → Option Value) (P : σ → Prop) (μ : σ → Nat) (c : σ) (s₂ : Shared) : Prop :=
  ∃ (c' : σ) (h' : Heap) (tk : Nat) (m' : Str → Option Value), s₂ = { s with heap := h', toks := tk } ∧ Fr h₀ L h' m' ∧ News h₀ L h' (LL c') ∧ (∀ p ∈ ps c', m' p.1 = some p.2) ∧ (∀ z, (∀ p ∈ ps c', z ≠ p.1) → stored.contains z = false → m' z = m₀ z) ∧ P c' ∧ μ c' < μ c
noncomputable def WPost {σ : Type} (h₀ : Heap) (L : Addr) (s : Shared) (LL : σ → Led) (ps : σ → List (Str × Value)) (stored : List Str) (m₀ : Str → Option Value) (P : σ → Prop) (μ : σ → Nat) (Q : Flow → Shared → Prop) (c : σ) (f : Flow) (s₂ : Shared) : Prop :=
  match f with
  | .ret v => Q (.ret v) s₂
  | .brk => Q .next s₂
  | _ => WEnd h₀ L s LL ps stored m₀ P μ c s₂
theorem w_end {σ : Type} {h₀ : Heap} {L : Addr} {s : Shared} {LL : σ → Led} {ps : σ → List (Str × Value)} {stored : List Str} {m₀ m' : Str → Option Value} {P : σ → Prop} {μ : σ → Nat} {c : σ} {h' : Heap} {tk : Nat} {news' : Led} (c' : σ)
    (F : Fr h₀ L h' m') (N : News h₀ L h' news') (hk : ∀ p ∈ ps c', m' p.1 = some p.2) (hr : ∀ z, (∀ p ∈ ps c', z ≠ p.1) → stored.contains z = false → m' z = m₀ z) (hn : ∀ p ∈ LL c', p ∈ news') (hp : P c') (hm : μ c' < μ c) :
    WEnd h₀ L s LL ps stored m₀ P μ c { s with heap := h', toks := tk } := ⟨c', h', tk, m', rfl, F, fun p hp => N p (hn p hp), hk, hr, hp, hm⟩
theorem w_while {prog : Program} {w : World} {A : Around} {E : Value → Shared → Prop} {Q : Flow → Shared → Prop} {s : Shared} {env : Env} {h₀ : Heap} {L : Addr} {σ : Type} {test : Expr} {body : List Stmt} {pos : Pos} {m₀ : Str → Option Value} {news : Led} (LL : σ → Led) (ps : σ → List (Str × Value)) (stored : List Str) (P : σ → Prop) (μ : σ → Nat) (c₀ : σ)
    (F : Fr h₀ L s.heap m₀) (N : News h₀ L s.heap news) (hk : ∀ p ∈ ps c₀, m₀ p.1 = some p.2) (hn : ∀ p ∈ LL c₀, p ∈ news) (hp : P c₀)
    (turn : ∀ (c : σ) (u : Str → Option Value) h tk, P c → Fr h₀ L h (kstB (fun z => if stored.contains z then u z else m₀ z) (ps c)) → News h₀ L h (LL c) →
      wpAny (model prog w) A (isTrue test env (eval test env)) (fun b s₂ =>
        if b = true then wpAny (model prog w) A (execs body env) (WPost h₀ L s LL ps stored m₀ P μ Q c) E s₂ else Q .next s₂) E { s with heap := h, toks := tk })
    (hE : PassesOwn (model prog w) A env E := by passes_own) :
    wpAny (model prog w) A (exec (.While test body [] pos) env) Q E s := by
  refine While_inv2 (fun n m nx => ∃ c : σ, nx = LL c ∧ μ c = n ∧ (∀ p ∈ ps c, m p.1 = some p.2) ∧ (∀ z, (∀ p ∈ ps c, z ≠ p.1) → stored.contains z = false → m z = m₀ z) ∧ P c) F (fun p hp => N p (hn p hp)) ⟨c₀, rfl, rfl, hk, fun _ _ _ => rfl, hp⟩ ?_ hE
  rintro n m₁ nx h tk F₁ N₁ ⟨c, hnx, hsz, h1, h2, hp'⟩
  rw [hnx] at N₁
  rw [← hsz]
  refine wpAny_mono (turn c m₁ h tk hp' (ksw_fr h1 h2 F₁) N₁) (fun b s₂ p => ?_) fun _ _ x => x
  cases b with
  | false => simpa using p
  | true =>
    simp only [if_true] at p ⊢
    refine wpAny_mono p (fun f s₃ q => ?_) fun _ _ x => x
    cases f with
    | ret v => exact q
    | brk => exact q
    | next =>
      obtain ⟨c', h', tk', m', rfl, F', N', hk9, hr9, hp9, hm9⟩ := q
      exact ⟨h', tk', m', LL c', μ c', rfl, F', N', hm9, c', rfl, rfl, hk9, hr9, hp9⟩
    | cont =>
      obtain ⟨c', h', tk', m', rfl, F', N', hk9, hr9, hp9, hm9⟩ := q
      exact ⟨h', tk', m', LL c', μ c', rfl, F', N', hm9, c', rfl, rfl, hk9, hr9, hp9⟩
theorem ne_allLt {e d : Nat} : ∀ {l : Led}, AllLt e l → e ≤ d → ∀ p ∈ l, p.1 ≠ d
  | [], _, _, _, hp => nomatch hp
  | p :: r, h, hd, q, hq => by
    rcases List.mem_cons.mp hq with rfl | hq
    · exact Nat.ne_of_lt (Nat.lt_of_lt_of_le h.1 hd)
    · exact ne_allLt h.2 hd q hq
theorem sw3 {α : Type} {p1 p2 d : α} {r : List α} : ∀ p ∈ d :: p1 :: p2 :: r, p ∈ p1 :: p2 :: d :: r := by
  intro p hp
  simp only [List.mem_cons] at hp ⊢
  rcases hp with h | h | h | h <;> simp [h]
/-- a code table of the text: untouched, or with the one code object that the def's first run has made -/
noncomputable def Tab (line col : Int) (qual : Str) (news : Led) (ps : Array Value) : Prop :=
  ps = #[] ∨ ∃ c oc vs t, ps = #[rawInt line, rawInt col, .ref c] ∧ (c, oc) ∈ news ∧ oc.data = .fields vs ∧ vs[1]? = some (.str qual t)
theorem Tab.mono {line col : Int} {qual : Str} {news news' : Led} {ps : Array Value} (h : Tab line col qual news ps) (hs : ∀ p ∈ news, p ∈ news') : Tab line col qual news' ps := by
  rcases h with h | ⟨c, oc, vs, t, h1, h2, h3⟩
  · exact .inl h
  · exact .inr ⟨c, oc, vs, t, h1, hs _ h2, h3⟩
theorem allLt_mem {d : Nat} : ∀ {l : Led}, AllLt d l → ∀ q ∈ l, q.1 < d
  | [], _, _, hq => nomatch hq
  | p :: r, h, q, hq => by
    rcases List.mem_cons.mp hq with rfl | hq
    · exact h.1
    · exact allLt_mem h.2 q hq
/-- what a call that makes a list of ints leaves: the table at P, the list, and objects of its own beyond all that stood -/
noncomputable def TabList (P : Addr) (line col : Int) (qual : Str) (ds : List Int) (news : Led) (r : Value) (news' : Led) : Prop :=
  ∃ l vs cnt tl p, r = .ref l ∧ IntsAre vs ds ∧ news' = (P, tabObj p) :: (l, listOf vs.toArray cnt) :: (tl ++ news) ∧ Tab line col qual (tl ++ news) p ∧ P < l ∧ (∀ q ∈ tl, l < q.1) ∧ AllLt l news
theorem sw2 {α : Type} {p1 d : α} {r : List α} : ∀ p ∈ d :: p1 :: r, p ∈ p1 :: d :: r := by
  intro p hp
  simp only [List.mem_cons] at hp ⊢
  rcases hp with h | h | h <;> simp [h]
/-- what a call that hands back an int leaves: the table at P, and objects of its own beyond all that stood -/
noncomputable def TabInt (P : Addr) (line col : Int) (qual : Str) (v : Int) (news : Led) (r : Value) (news' : Led) : Prop :=
  ∃ t tl p, r = .int v t ∧ news' = (P, tabObj p) :: (tl ++ news) ∧ Tab line col qual (tl ++ news) p ∧ (∀ q ∈ tl, @LT.lt Nat _ P q.1) ∧ ∀ q ∈ tl, AllLt q.1 news
end Mine
section
local macro_rules | `(tactic| k_all) => `(tactic| (tbn_letter; exact Mine.ne_allLt (by assumption) (by omega)))
local macro_rules | `(tactic| k_all) => `(tactic| (tbn_letter; assumption))
local macro_rules | `(tactic| k_mem) => `(tactic| first | assumption | exact List.Mem.tail _ (by assumption) | exact List.Mem.tail _ (List.Mem.tail _ (by assumption)))
namespace Mine
section
/-- the inner def of _int2digits: from any frame; the list is at D, n, inner and a_digits are cells -/
noncomputable def InnerSpec (prog : Program) (w : World) (K : Frag) (mean : ExcName → Option Value) (mg mb : Str → Option Value) (f : Addr) (fo : Obj) (c' : Addr) (oc : Obj) (D ca ci ck : Addr) (oa oi ok : Obj) (sim : Nat → Int → Int → Int → List Int → Option (List Int)) (d : Nat) : Prop :=
  ∀ (dp un : Nat) (gd : Option (List Code)) (cn : Str) (cs : Scope) (a : Addr) (ccd : Value) (cl : List (Str × Addr)) (outer : List Env) (A₀ : Around) (base h₀ : Heap) (L : Addr) (m : Str → Option Value) (s : Shared) (Q E : Value → Shared → Prop) (news : Led) (vs : List Value) (ds ds' : List Int) (cnt : Nat) (x lo hi : Int) (tx tl th : Tok),
    CodeHd base 51 47 → CodeHd base 58 54 → CodeHd base 130 128 → Below A₀ base outer h₀ → Fr h₀ L s.heap m → K.In h₀ → News h₀ L s.heap ((D, listOf vs.toArray cnt) :: news) → Top topProg loose0 mean mg mb h₀ → cs.kind = .function → dp + d + 2 < recursionLimit → un + 16 * d + 32 < cLine →
    (f, fo) ∈ news → (c', oc) ∈ news → (ca, oa) ∈ news → (ci, oi) ∈ news → (ck, ok) ∈ news → (∀ p ∈ news, p.1 ≠ D) → IntsAre vs ds → sim d x lo hi ds = some ds' →
    (∀ (h' : Heap) (tk' : Nat) (vs' : List Value) (cnt' : Nat), IntsAre vs' ds' → Fr h₀ L h' m → News h₀ L h' ((D, listOf vs'.toArray cnt') :: news) → Q .none { s with heap := h', toks := tk' }) →
    wpAny (model prog w) (ktrTop dp un gd cn cs L a ccd cl outer) (call (.ref f) [.int x tx, .int lo tl, .int hi th]) Q E s
theorem inner_use {prog : Program} {w : World} {K : Frag} {mean : ExcName → Option Value} {mg mb : Str → Option Value} {f : Addr} {fo : Obj} {c' : Addr} {oc : Obj} {D ca ci ck : Addr} {oa oi ok : Obj} (sim : Nat → Int → Int → Int → List Int → Option (List Int)) (d : Nat)
    {dp un : Nat} {gd : Option (List Code)} {cn : Str} {cs : Scope} {a : Addr} {ccd : Value} {cl : List (Str × Addr)} {outer : List Env} {A₀ : Around} {base h₀ : Heap} {L : Addr} {m : Str → Option Value} {s : Shared} {Q E : Value → Shared → Prop} {news led : Led} {vs : List Value} {ds ds' : List Int} {cnt : Nat} {x lo hi : Int} {tx tl th : Tok}
    (h1 : CodeHd base 51 47) (h2 : CodeHd base 58 54) (h3 : CodeHd base 130 128) (B : Below A₀ base outer h₀) (F : Fr h₀ L s.heap m) (X : K.In h₀) (N : News h₀ L s.heap led) (T : Top topProg loose0 mean mg mb h₀) (hk : cs.kind = .function) (hd : dp + d + 2 < recursionLimit) (hu : un + 16 * d + 32 < cLine)
    (hf : (f, fo) ∈ news) (hc : (c', oc) ∈ news) (ha : (ca, oa) ∈ news) (hi' : (ci, oi) ∈ news) (hn : (ck, ok) ∈ news) (hl : ∀ p ∈ (D, listOf vs.toArray cnt) :: news, p ∈ led) (off : ∀ p ∈ news, p.1 ≠ D) (hI : IntsAre vs ds) (hs : sim d x lo hi ds = some ds')
    (step : ∀ d, (∀ d', d' < d → InnerSpec prog w K mean mg mb f fo c' oc D ca ci ck oa oi ok sim d') → InnerSpec prog w K mean mg mb f fo c' oc D ca ci ck oa oi ok sim d)
    (ret : ∀ (h' : Heap) (tk' : Nat) (vs' : List Value) (cnt' : Nat), IntsAre vs' ds' → Fr h₀ L h' m → News h₀ L h' ((D, listOf vs'.toArray cnt') :: news) → Q .none { s with heap := h', toks := tk' }) :
    wpAny (model prog w) (ktrTop dp un gd cn cs L a ccd cl outer) (call (.ref f) [.int x tx, .int lo tl, .int hi th]) Q E s := by
  have all : ∀ n, ∀ d, d < n → InnerSpec prog w K mean mg mb f fo c' oc D ca ci ck oa oi ok sim d := by
    intro n
    induction n with
    | zero => intro d h; exact absurd h (Nat.not_lt_zero _)
    | succ n ih => exact fun d h => step d fun d' h' => ih d' (Nat.lt_of_lt_of_le h' (Nat.le_of_lt_succ h))
  exact all (d + 1) d (Nat.lt_succ_self _) _ _ _ _ _ _ _ _ _ _ _ _ _ _ _ _ _ _ _ _ _ _ _ _ _ _ _ _ h1 h2 h3 B F X (fun p hp => N p (hl p hp)) T hk hd hu hf hc ha hi' hn off hI hs ret
theorem inner_call {prog : Program} {w : World} {K : Frag} {mean : ExcName → Option Value} {mg mb : Str → Option Value} {f : Addr} {fo : Obj} {c' : Addr} {oc : Obj} {D ca ci ck : Addr} {oa oi ok : Obj} {sim : Nat → Int → Int → Int → List Int → Option (List Int)} {d : Nat}
    {dp un : Nat} {gd : Option (List Code)} {cn : Str} {cs : Scope} {a : Addr} {ccd : Value} {cl : List (Str × Addr)} {outer : List Env} {A₀ : Around} {base h₀ : Heap} {L : Addr} {m : Str → Option Value} {s : Shared} {Q E : Value → Shared → Prop} {news led : Led} {vs : List Value} {ds ds' : List Int} {cnt : Nat} {x lo hi : Int} {tx tl th : Tok}
    (h1 : CodeHd base 51 47) (h2 : CodeHd base 58 54) (h3 : CodeHd base 130 128) (B : Below A₀ base outer h₀) (F : Fr h₀ L s.heap m) (X : K.In h₀) (N : News h₀ L s.heap led) (T : Top topProg loose0 mean mg mb h₀) (hk : cs.kind = .function) (hd : dp + d + 2 < recursionLimit) (hu : un + 16 * d + 32 < cLine)
    (hf : (f, fo) ∈ news) (hc : (c', oc) ∈ news) (ha : (ca, oa) ∈ news) (hi' : (ci, oi) ∈ news) (hn : (ck, ok) ∈ news) (hl : ∀ p ∈ (D, listOf vs.toArray cnt) :: news, p ∈ led) (off : ∀ p ∈ news, p.1 ≠ D) (hI : IntsAre vs ds) (hs : sim d x lo hi ds = some ds')
    (C : InnerSpec prog w K mean mg mb f fo c' oc D ca ci ck oa oi ok sim d)
    (ret : ∀ (h' : Heap) (tk' : Nat) (vs' : List Value) (cnt' : Nat), IntsAre vs' ds' → Fr h₀ L h' m → News h₀ L h' ((D, listOf vs'.toArray cnt') :: news) → Q .none { s with heap := h', toks := tk' }) :
    wpAny (model prog w) (ktrTop dp un gd cn cs L a ccd cl outer) (call (.ref f) [.int x tx, .int lo tl, .int hi th]) Q E s :=
  C _ _ _ _ _ _ _ _ _ _ _ _ _ _ _ _ _ _ _ _ _ _ _ _ _ _ _ _ h1 h2 h3 B F X (fun p hp => N p (hl p hp)) T hk hd hu hf hc ha hi' hn off hI hs ret
theorem inner_call2 {prog : Program} {w : World} {K : Frag} {mean : ExcName → Option Value} {mg mb : Str → Option Value} {f : Addr} {fo : Obj} {c' : Addr} {oc : Obj} {D ca ci ck : Addr} {oa oi ok : Obj} {sim : Nat → Int → Int → Int → List Int → Option (List Int)} {d : Nat} {dp un : Nat} {gd : Option (List Code)} {cn : Str} {cs : Scope} {a : Addr} {ccd : Value} {cl : List (Str × Addr)} {outer : List Env} {A₀ : Around} {base h₀ : Heap} {L : Addr} {m : Str → Option Value} {s : Shared} {Q E : Value → Shared → Prop} {news led : Led} {vs : List Value} {ds ds' : List Int} {cnt : Nat} {x lo hi : Int} {tx tl th : Tok}
    (C : InnerSpec prog w K mean mg mb f fo c' oc D ca ci ck oa oi ok sim d) (h1 : CodeHd base 51 47) (h2 : CodeHd base 58 54) (h3 : CodeHd base 130 128) (B : Below A₀ base outer h₀) (F : Fr h₀ L s.heap m) (X : K.In h₀) (N : News h₀ L s.heap led) (T : Top topProg loose0 mean mg mb h₀) (hk : cs.kind = .function) (hl : ∀ p ∈ (D, listOf vs.toArray cnt) :: news, p ∈ led) (hf : (f, fo) ∈ news) (hc : (c', oc) ∈ news) (ha : (ca, oa) ∈ news) (hi' : (ci, oi) ∈ news) (hn : (ck, ok) ∈ news) (off : ∀ p ∈ news, p.1 ≠ D) (hI : IntsAre vs ds) (hs : sim d x lo hi ds = some ds') (hd : dp + d + 2 < recursionLimit) (hu : un + 16 * d + 32 < cLine)
    (ret : ∀ (h' : Heap) (tk' : Nat) (vs' : List Value) (cnt' : Nat), IntsAre vs' ds' → Fr h₀ L h' m → News h₀ L h' ((D, listOf vs'.toArray cnt') :: news) → Q .none { s with heap := h', toks := tk' })
    :
    wpAny (model prog w) (ktrTop dp un gd cn cs L a ccd cl outer) (call (.ref f) [.int x tx, .int lo tl, .int hi th]) Q E s :=
  inner_call h1 h2 h3 B F X N T hk hd hu hf hc ha hi' hn hl off hI hs C ret
/-- the def that stands at place j of the body of the def at place i of the text: its parameters, body and scope -/
noncomputable def nestAt (p : Program) (i j : Nat) : Option (Arguments × List Stmt × Scope) :=
  match p.main.body.drop i with
  | .FunctionDef _ _ b _ _ _ _ _ _ _ :: _ => (match b.drop j with
    | .FunctionDef _ a' b' _ _ _ sc _ _ _ :: _ => some (a', b', sc)
    | _ => none)
  | _ => none
noncomputable def inSim (n : Int) : Nat → Int → Int → Int → List Int → Option (List Int)
  | 0, _, _, _, _ => none
  | d + 1, x, lo, hi, ds =>
    if lo + 1 = hi then (if 0 ≤ lo ∧ lo < (ds.length : Int) ∧ lo ≤ 100 then some (ds.set lo.toNat x) else none)
    else if 0 ≤ ((lo + hi).fdiv (2 ^ Int.toNat 1) - lo) * n ∧ ((lo + hi).fdiv (2 ^ Int.toNat 1) - lo) * n ≤ 60 ∧ 0 ≤ x ∧ x < 1048576 ∧ 0 ≤ lo ∧ lo ≤ 100 ∧ 0 ≤ hi ∧ hi ≤ 100 then
      (match inSim n d (Builtin.bitXor x (x.fdiv (2 ^ (((lo + hi).fdiv (2 ^ Int.toNat 1) - lo) * n).toNat) * 2 ^ (((lo + hi).fdiv (2 ^ Int.toNat 1) - lo) * n).toNat)) lo ((lo + hi).fdiv (2 ^ Int.toNat 1)) ds with
      | none => none
      | some ds1 => inSim n d (x.fdiv (2 ^ (((lo + hi).fdiv (2 ^ Int.toNat 1) - lo) * n).toNat)) ((lo + hi).fdiv (2 ^ Int.toNat 1)) hi ds1)
    else none
theorem inSim_cases {n x lo hi : Int} {d : Nat} {ds ds' : List Int} (h : inSim n d x lo hi ds = some ds') :
    (∃ e, d = e + 1 ∧ lo + 1 = hi ∧ 0 ≤ lo ∧ lo < (ds.length : Int) ∧ lo ≤ 100 ∧ ds' = ds.set lo.toNat x) ∨
    (∃ e ds1, d = e + 1 ∧ lo + 1 ≠ hi ∧ 0 ≤ ((lo + hi).fdiv (2 ^ Int.toNat 1) - lo) * n ∧ ((lo + hi).fdiv (2 ^ Int.toNat 1) - lo) * n ≤ 60 ∧ 0 ≤ x ∧ x < 1048576 ∧ 0 ≤ lo ∧ lo ≤ 100 ∧ 0 ≤ hi ∧ hi ≤ 100 ∧
      inSim n e (Builtin.bitXor x (x.fdiv (2 ^ (((lo + hi).fdiv (2 ^ Int.toNat 1) - lo) * n).toNat) * 2 ^ (((lo + hi).fdiv (2 ^ Int.toNat 1) - lo) * n).toNat)) lo ((lo + hi).fdiv (2 ^ Int.toNat 1)) ds = some ds1 ∧
      inSim n e (x.fdiv (2 ^ (((lo + hi).fdiv (2 ^ Int.toNat 1) - lo) * n).toNat)) ((lo + hi).fdiv (2 ^ Int.toNat 1)) hi ds1 = some ds') := by
  cases d with
  | zero => simp [inSim] at h
  | succ e =>
    rw [inSim] at h
    split at h
    · split at h
      · rename_i h1 h2
        exact .inl ⟨e, rfl, h1, h2.1, h2.2.1, h2.2.2, (Option.some.inj h).symm⟩
      · cases h
    · split at h
      · rename_i h1 h2
        split at h
        · cases h
        · rename_i ds1 e1
          exact .inr ⟨e, ds1, rfl, h1, h2.1, h2.2.1, h2.2.2.1, h2.2.2.2.1, h2.2.2.2.2.1, h2.2.2.2.2.2.1, h2.2.2.2.2.2.2.1, h2.2.2.2.2.2.2.2, e1, h⟩
      · cases h
end
section
theorem inner_step (w : World) (mean : ExcName → Option Value) (mg mb : Str → Option Value) (prm : Arguments) (bd : List Stmt) (sc : Scope) (hb : nestAt Challenge.pw_pe0223_01 5 1 = some (prm, bd, sc)) (f c' D ca ci ck : Addr) (oc oa oi ok : Obj) (qual : Str) (doc pm ctv : Value) (vsc : Array Value) (tq : Tok) (n : Int) (tn : Tok)
    (hoc : oc.data = .fields vsc) (hq : vsc[1]? = some (.str qual tq)) (hoa : oa.data = .cell (some (.ref D))) (hoi : oi.data = .cell (some (.ref f))) (hok : ok.data = .cell (some (.int n tn))) (hn0 : 1 ≤ n) (hn1 : n ≤ 30) (d : Nat)
    (IH : ∀ d', d' < d → InnerSpec Challenge.rw_pe0223_01.row.prog w (hd.heap_39 w.params) mean mg mb f (fnMade (Str.ofString "inner") qual prm bd sc [(Str.ofString "n", ck), (Str.ofString "inner", ci), (Str.ofString "a_digits", ca)] doc pm c' ctv) c' oc D ca ci ck oa oi ok (inSim n) d') :
    InnerSpec Challenge.rw_pe0223_01.row.prog w (hd.heap_39 w.params) mean mg mb f (fnMade (Str.ofString "inner") qual prm bd sc [(Str.ofString "n", ck), (Str.ofString "inner", ci), (Str.ofString "a_digits", ca)] doc pm c' ctv) c' oc D ca ci ck oa oi ok (inSim n) d := by
  w_top off
  k_with_none
  k_fill
  cases hb
  unfold InnerSpec
  intro dp9 un9 gd9 cn9 cs9 a9 ccd9 cl9 outer9 A9 base9 h09 L9 m9 s9 Q9 E9 news9 vs9 ds9 ds9' cnt9 x9 lo9 hi9 tx9 tl9 th9 hC19 hC29 hC39 B9 F9 X9 N9 T9 hk9 hd9 hu9 hf9 hc9 hca9 hci9 hck9 off9 hI9 hs9 hret9
  rcases inSim_cases hs9 with ⟨e9, rfl, q1, q2, q3, q4, rfl⟩ | ⟨e9, ds19, rfl, q1, q2, q3, q4, q5, q6, q7, q8, q9, q10, q11⟩
  all_goals (refine wpAny_call ?_)
  all_goals (((k_dflt (refine code_nest (by k_asm) (by k_asm) (by k_asm) (by k_asm) (by k_asm) (by exact rfl) (by exact rfl) (by assumption) (by k_mem) (by exact codeRec_news (by k_asm) (by k_mem) (by assumption) (by assumption)) (by ktr_room) (by exact BindsTo.of_eq rfl) (by exact locs rfl) ?_ (by exact rfl) (by exact rfl) (by exact rfl) (by decide); k_whole; intro zg' zL' zh' zFG' zF' zN' zB' zX' zT'; (try dsimp only); (try k_lift zB'); (try k_fold)))))
  all_goals (have C9 := IH e9 (Nat.lt_succ_self _))
  all_goals (k_with "call ref" => ((k_dflt (refine Mine.inner_call2 (by assumption) (by k_asm) (by k_asm) (by k_asm) (by k_asm) (by k_asm) (by k_asm) (by k_asm) (by k_asm) (by rfl) (by exact fun _ h => h) (by assumption) (by assumption) (by assumption) (by assumption) (by assumption) (by assumption) (by assumption) (by assumption) (by ktr_room) (by ktr_units) ?_); intro zh8 ztk8 zvs8 zcnt8 zhI8 zF8 zN8; (try dsimp only); (try k_fold))))
  all_goals k_steps
  all_goals first
    | (exfalso; omega)
    | exact hret9 _ _ _ _ (by first | assumption | exact ints_set (by assumption) _) (by k_asm) (by k_asm)
end
section
noncomputable def dgN (a n : Int) : Nat := ((((Builtin.Int.intBits a : Nat) : Int) + n - 1).fdiv n).toNat
/-- _int2digits, by its steps -/
noncomputable def i2d (a n : Int) : Option (List Int) :=
  if 0 ≤ a ∧ a < 1048576 ∧ 1 ≤ n ∧ n ≤ 30 ∧ 0 ≤ (((Builtin.Int.intBits a : Nat) : Int) + n - 1).fdiv n ∧ (((Builtin.Int.intBits a : Nat) : Int) + n - 1).fdiv n ≤ 20 then
    (if a = 0 then some (List.replicate (dgN a n) 0) else inSim n 10 a 0 (dgN a n) (List.replicate (dgN a n) 0))
  else none
theorem rep_flat (k : Nat) (x : Int) : (List.replicate k [x]).flatten = List.replicate k x := by
  induction k with
  | zero => rfl
  | succ k ih => rw [List.replicate_succ, List.replicate_succ, List.flatten_cons, ih]; rfl
theorem inS_of {a n : Int} {ds' : List Int} {N : Nat} (h : (if a = 0 then some (List.replicate (dgN a n) 0) else inSim n 10 a 0 (dgN a n) (List.replicate (dgN a n) 0)) = some ds') (hne : a ≠ 0)
    (e : (List.replicate ((((Builtin.Int.intBits a : Nat) : Int) + n - 1).fdiv n).toNat [(0 : Int)]).flatten.length = N) : inSim n 10 a 0 (N : Int) (List.replicate ((((Builtin.Int.intBits a : Nat) : Int) + n - 1).fdiv n).toNat [(0 : Int)]).flatten = some ds' := by
  rw [if_neg hne] at h
  rw [rep_flat] at e ⊢
  rw [List.length_replicate] at e
  subst e
  exact h
theorem inZ_of {a n : Int} {ds' : List Int} (h : (if a = 0 then some (List.replicate (dgN a n) 0) else inSim n 10 a 0 (dgN a n) (List.replicate (dgN a n) 0)) = some ds') (he : a = 0) :
    (List.replicate ((((Builtin.Int.intBits a : Nat) : Int) + n - 1).fdiv n).toNat [(0 : Int)]).flatten = ds' := by
  rw [if_pos he] at h
  rw [rep_flat]
  exact Option.some.inj h
theorem i2d_fin {h₀ h : Heap} {L D f c' x1 y1 y2 y3 : Addr} {news : Led} {fo oc ox o1 o2 o3 : Obj} {vs : List Value} {cnt : Nat} {ps vsc : Array Value} {t : Tok} {ds' : List Int}
    (N : News h₀ L h ((D, listOf vs.toArray cnt) :: (f, fo) :: (c', oc) :: (x1, ox) :: (y1, o1) :: (y2, o2) :: (y3, o3) :: (47, tabObj ps) :: news)) (hI : IntsAre vs ds') (hps : ps = #[rawInt 33, rawInt 4, .ref c']) (hd : oc.data = .fields vsc) (hv : vsc[1]? = some (.str (Str.ofString "_int2digits.<locals>.inner") t))
    (h1 : @LT.lt Nat _ 47 D) (h2 : AllLt D news) (h3 : @LT.lt Nat _ D c') : ∃ news', TabList 47 33 4 (Str.ofString "_int2digits.<locals>.inner") ds' news (.ref D) news' ∧ News h₀ L h news' := by
  refine ⟨_, ⟨D, vs, cnt, [(c', oc)], ps, rfl, hI, rfl, .inr ⟨c', oc, vsc, t, hps, List.Mem.head _, hd, hv⟩, h1, ?_, h2⟩, fun p hp => N p ?_⟩
  · intro q hq
    rw [List.mem_singleton.mp hq]
    exact h3
  · simp only [List.mem_cons, List.cons_append, List.nil_append] at hp ⊢
    rcases hp with hp | hp | hp | hp <;> simp [hp]
theorem int2digits_e (w : World) (mean : ExcName → Option Value) (mg mb : Str → Option Value) (a : Int) (ta : Tok) (n : Int) (tn : Tok) (news : Led) (hbig : ∀ p ∈ news, p.1 ≠ 47) (ds' : List Int) (hsim : i2d a n = some ds') :
    Con Challenge.rw_pe0223_01.row.prog w (hd.heap_39 w.params) mean mg mb 52 [.int a ta, .int n tn] ((47, tabObj #[]) :: news) 20 300 (TabList 47 33 4 (Str.ofString "_int2digits.<locals>.inner") ds' news) := by
  w_top off
  k_with_none
  k_fill
  unfold i2d at hsim
  split at hsim
  case isFalse => cases hsim
  rename_i hc
  obtain ⟨ha0, ha1, hn0, hn1, hk0, hk1⟩ := hc
  intro dp un gd cn cs a' ccd cl outer A₀ base h₀ L m s Q E hC1 hC2 hC3 B F X N T hk hd hu hret
  refine wpAny_call ?_
  ((k_dflt (refine code_defC (by k_asm) (by k_asm) (by k_asm) (by k_asm) (by k_asm) (by exact rfl) (by exact rfl) (by assumption) (by k_is) (by k_is) (by ktr_room) (by exact BindsTo.of_eq rfl) (by exact rfl) (by decide +kernel) ?_ (by exact rfl) (by exact rfl) (by exact rfl); k_whole; intro zg' zL' zh' ztk' zcells' zFG' zF' zN' zY' zB' zX' zT' zl1; (try k_lt zl1); k_cells zY'; (try simp only [List.cons_append, List.nil_append] at zN'); (try dsimp only); (try k_lift zB'); (try k_fold))))
  obtain ⟨_, hAL⟩ := (‹_ ∧ AllLt _ news›)
  k_steps
  · k_dflt (refine' Mine.inner_use (ds' := ds') (Mine.inSim n) 10 ?b1 ?b2 ?b3 ?B ?F ?X ?N ?T ?K ?d ?u ?f ?c ?ca ?ci ?ck ?l ?off ?I ?s ?step ?_; (case N => assumption); (case l => exact Mine.sw3); (case b1 => k_asm); (case b2 => k_asm); (case b3 => k_asm); (case B => k_asm); (case F => k_asm); (case X => k_asm); (case T => k_asm); (case K => rfl); (case d => ktr_room); (case u => ktr_units); (case f => exact List.Mem.head _); (case c => exact List.Mem.tail _ (List.Mem.head _)); (case ca => exact List.Mem.tail _ (List.Mem.tail _ (List.Mem.tail _ (List.Mem.tail _ (List.Mem.head _))))); (case ci => exact List.Mem.tail _ (List.Mem.tail _ (List.Mem.tail _ (List.Mem.head _)))); (case ck => exact List.Mem.tail _ (List.Mem.tail _ (List.Mem.tail _ (List.Mem.tail _ (List.Mem.tail _ (List.Mem.head _)))))); (case off => (first | k_all | fail "k")); (case I => assumption); (case s => exact Mine.inS_of hsim (by assumption) (by assumption)); (case step => (intro d8 IH8; exact Mine.inner_step _ _ _ _ _ _ _ (by kernel_rfl) _ _ _ _ _ _ _ _ _ _ _ _ _ _ _ _ _ _ (by assumption) (by assumption) (by assumption) (by assumption) (by assumption) (by assumption) (by assumption) d8 IH8)))
    intro h8 tk8 vs8 cnt8 hI8 F8 N8
    (try dsimp only)
    (try k_fold)
    k_steps
    obtain ⟨nw, hR, hN⟩ := i2d_fin (by assumption) hI8 (by rfl) (by assumption) (by assumption) (by omega) (by tbn_find) (by omega)
    exact hret _ _ _ _ hR (by k_asm) hN
  · have hz := inZ_of hsim (by assumption)
    have hi := ‹IntsAre (List.replicate _ [Value.int _ _]).flatten _›
    rw [hz] at hi
    obtain ⟨nw, hR, hN⟩ := i2d_fin (kst_newsOf (by assumption) sw3) hi (by rfl) (by assumption) (by assumption) (by omega) (by tbn_find) (by omega)
    exact hret _ _ _ _ hR (by k_asm) hN
end
section
theorem i2d_finH {h₀ h : Heap} {L D f c₁ x1 y1 y2 y3 : Addr} {news : Led} {fo oc₁ ox o1 o2 o3 : Obj} {vs : List Value} {cnt : Nat} {vs₁ : Array Value} {t₁ : Tok} {ds' : List Int}
    (N : News h₀ L h ((D, listOf vs.toArray cnt) :: (f, fo) :: (x1, ox) :: (y1, o1) :: (y2, o2) :: (y3, o3) :: (47, tabObj #[rawInt 33, rawInt 4, .ref c₁]) :: news)) (hI : IntsAre vs ds') (hm₁ : (c₁, oc₁) ∈ news) (hd : oc₁.data = .fields vs₁) (hv : vs₁[1]? = some (.str (Str.ofString "_int2digits.<locals>.inner") t₁))
    (h1 : @LT.lt Nat _ 47 D) (h2 : AllLt D news) : ∃ news', TabList 47 33 4 (Str.ofString "_int2digits.<locals>.inner") ds' news (.ref D) news' ∧ News h₀ L h news' := by
  refine ⟨_, ⟨D, vs, cnt, [], _, rfl, hI, rfl, .inr ⟨c₁, oc₁, vs₁, t₁, rfl, hm₁, hd, hv⟩, h1, (fun q hq => nomatch hq), h2⟩, fun p hp => N p ?_⟩
  simp only [List.mem_cons, List.nil_append] at hp ⊢
  rcases hp with hp | hp | hp <;> simp [hp]
theorem int2digits_h (w : World) (mean : ExcName → Option Value) (mg mb : Str → Option Value) (a : Int) (ta : Tok) (n : Int) (tn : Tok) (news : Led) (c₁ : Addr) (oc₁ : Obj) (vs₁ : Array Value) (t₁ : Tok) (hm₁ : (c₁, oc₁) ∈ news) (hd₁ : oc₁.data = .fields vs₁) (hv₁ : vs₁[1]? = some (.str (Str.ofString "_int2digits.<locals>.inner") t₁)) (hbig : ∀ p ∈ news, p.1 ≠ 47) (ds' : List Int) (hsim : i2d a n = some ds') :
    Con Challenge.rw_pe0223_01.row.prog w (hd.heap_39 w.params) mean mg mb 52 [.int a ta, .int n tn] ((47, tabObj #[rawInt 33, rawInt 4, .ref c₁]) :: news) 20 300 (TabList 47 33 4 (Str.ofString "_int2digits.<locals>.inner") ds' news) := by
  w_top off
  k_with_none
  k_fill
  unfold i2d at hsim
  split at hsim
  case isFalse => cases hsim
  rename_i hc
  obtain ⟨ha0, ha1, hn0, hn1, hk0, hk1⟩ := hc
  intro dp un gd cn cs a' ccd cl outer A₀ base h₀ L m s Q E hC1 hC2 hC3 B F X N T hk hd hu hret
  refine wpAny_call ?_
  ((k_dflt (refine code_defC (by k_asm) (by k_asm) (by k_asm) (by k_asm) (by k_asm) (by exact rfl) (by exact rfl) (by assumption) (by k_is) (by k_is) (by ktr_room) (by exact BindsTo.of_eq rfl) (by exact rfl) (by decide +kernel) ?_ (by exact rfl) (by exact rfl) (by exact rfl); k_whole; intro zg' zL' zh' ztk' zcells' zFG' zF' zN' zY' zB' zX' zT' zl1; (try k_lt zl1); k_cells zY'; (try simp only [List.cons_append, List.nil_append] at zN'); (try dsimp only); (try k_lift zB'); (try k_fold))))
  obtain ⟨_, hAL⟩ := (‹_ ∧ AllLt _ news›)
  k_steps
  · k_dflt (refine' Mine.inner_use (ds' := ds') (Mine.inSim n) 10 ?b1 ?b2 ?b3 ?B ?F ?X ?N ?T ?K ?d ?u ?f ?c ?ca ?ci ?ck ?l ?off ?I ?s ?step ?_; (case N => assumption); (case l => exact Mine.sw2); (case b1 => k_asm); (case b2 => k_asm); (case b3 => k_asm); (case B => k_asm); (case F => k_asm); (case X => k_asm); (case T => k_asm); (case K => rfl); (case d => ktr_room); (case u => ktr_units); (case f => exact List.Mem.head _); (case c => exact (List.Mem.tail _ (List.Mem.tail _ (List.Mem.tail _ (List.Mem.tail _ (List.Mem.tail _ (List.Mem.tail _ hm₁))))))); (case ca => exact (List.Mem.tail _ (List.Mem.tail _ (List.Mem.tail _ (List.Mem.head _))))); (case ci => exact (List.Mem.tail _ (List.Mem.tail _ (List.Mem.head _)))); (case ck => exact (List.Mem.tail _ (List.Mem.tail _ (List.Mem.tail _ (List.Mem.tail _ (List.Mem.head _)))))); (case off => (first | k_all | fail "k")); (case I => assumption); (case s => exact Mine.inS_of hsim (by assumption) (by assumption)); (case step => (intro d8 IH8; exact Mine.inner_step _ _ _ _ _ _ _ (by kernel_rfl) _ _ _ _ _ _ _ _ _ _ _ _ _ _ _ _ _ _ (by assumption) (by assumption) (by assumption) (by assumption) (by assumption) (by assumption) (by assumption) d8 IH8)))
    intro h8 tk8 vs8 cnt8 hI8 F8 N8
    (try dsimp only)
    (try k_fold)
    k_steps
    obtain ⟨nw, hR, hN⟩ := i2d_finH (by assumption) hI8 hm₁ hd₁ hv₁ (by omega) (by tbn_find)
    exact hret _ _ _ _ hR (by k_asm) hN
  · have hz := inZ_of hsim (by assumption)
    have hi := ‹IntsAre (List.replicate _ [Value.int _ _]).flatten _›
    rw [hz] at hi
    obtain ⟨nw, hR, hN⟩ := i2d_finH (kst_newsOf (by assumption) sw2) hi hm₁ hd₁ hv₁ (by omega) (by tbn_find)
    exact hret _ _ _ _ hR (by k_asm) hN
theorem int2digits_c (w : World) (mean : ExcName → Option Value) (mg mb : Str → Option Value) (a : Int) (ta : Tok) (n : Int) (tn : Tok) (news : Led) (p : Array Value) (hp : Tab 33 4 (Str.ofString "_int2digits.<locals>.inner") news p) (hbig : ∀ p ∈ news, p.1 ≠ 47) (ds' : List Int) (hsim : i2d a n = some ds') :
    Con Challenge.rw_pe0223_01.row.prog w (hd.heap_39 w.params) mean mg mb 52 [.int a ta, .int n tn] ((47, tabObj p) :: news) 20 300 (TabList 47 33 4 (Str.ofString "_int2digits.<locals>.inner") ds' news) := by
  rcases hp with rfl | ⟨c, oc, vs, t, rfl, h2, h3, h4⟩
  · exact int2digits_e w mean mg mb a ta n tn news hbig ds' hsim
  · exact int2digits_h w mean mg mb a ta n tn news c oc vs t h2 h3 h4 hbig ds' hsim
end
section
/-- the inner def of _digits2int: from any frame; digits, inner and n are cells -/
noncomputable def In2Spec (prog : Program) (w : World) (K : Frag) (mean : ExcName → Option Value) (mg mb : Str → Option Value) (f : Addr) (fo : Obj) (c' : Addr) (oc : Obj) (D ca ci ck : Addr) (oD oa oi ok : Obj) (sim : Nat → Int → Int → Option Int) (d : Nat) : Prop :=
  ∀ (dp un : Nat) (gd : Option (List Code)) (cn : Str) (cs : Scope) (a : Addr) (ccd : Value) (cl : List (Str × Addr)) (outer : List Env) (A₀ : Around) (base h₀ : Heap) (L : Addr) (m : Str → Option Value) (s : Shared) (Q E : Value → Shared → Prop) (news : Led) (v : Int) (lo hi : Int) (tl th : Tok),
    CodeHd base 51 47 → CodeHd base 58 54 → CodeHd base 130 128 → Below A₀ base outer h₀ → Fr h₀ L s.heap m → K.In h₀ → News h₀ L s.heap news → Top topProg loose0 mean mg mb h₀ → cs.kind = .function → dp + d + 2 < recursionLimit → un + 16 * d + 32 < cLine →
    (f, fo) ∈ news → (c', oc) ∈ news → (ca, oa) ∈ news → (ci, oi) ∈ news → (ck, ok) ∈ news → (D, oD) ∈ news → sim d lo hi = some v →
    (∀ (h' : Heap) (tk' : Nat) (t : Tok), Fr h₀ L h' m → News h₀ L h' news → Q (.int v t) { s with heap := h', toks := tk' }) →
    wpAny (model prog w) (ktrTop dp un gd cn cs L a ccd cl outer) (call (.ref f) [.int lo tl, .int hi th]) Q E s
theorem in2_call {prog : Program} {w : World} {K : Frag} {mean : ExcName → Option Value} {mg mb : Str → Option Value} {f : Addr} {fo : Obj} {c' : Addr} {oc : Obj} {D ca ci ck : Addr} {oD oa oi ok : Obj} {sim : Nat → Int → Int → Option Int} {d : Nat}
    {dp un : Nat} {gd : Option (List Code)} {cn : Str} {cs : Scope} {a : Addr} {ccd : Value} {cl : List (Str × Addr)} {outer : List Env} {A₀ : Around} {base h₀ : Heap} {L : Addr} {m : Str → Option Value} {s : Shared} {Q E : Value → Shared → Prop} {news : Led} {v lo hi : Int} {tl th : Tok}
    (h1 : CodeHd base 51 47) (h2 : CodeHd base 58 54) (h3 : CodeHd base 130 128) (B : Below A₀ base outer h₀) (F : Fr h₀ L s.heap m) (X : K.In h₀) (N : News h₀ L s.heap news) (T : Top topProg loose0 mean mg mb h₀) (hk : cs.kind = .function) (hd : dp + d + 2 < recursionLimit) (hu : un + 16 * d + 32 < cLine)
    (hf : (f, fo) ∈ news) (hc : (c', oc) ∈ news) (ha : (ca, oa) ∈ news) (hi' : (ci, oi) ∈ news) (hn : (ck, ok) ∈ news) (hD : (D, oD) ∈ news) (hs : sim d lo hi = some v)
    (C : In2Spec prog w K mean mg mb f fo c' oc D ca ci ck oD oa oi ok sim d)
    (ret : ∀ (h' : Heap) (tk' : Nat) (t : Tok), Fr h₀ L h' m → News h₀ L h' news → Q (.int v t) { s with heap := h', toks := tk' }) :
    wpAny (model prog w) (ktrTop dp un gd cn cs L a ccd cl outer) (call (.ref f) [.int lo tl, .int hi th]) Q E s :=
  C _ _ _ _ _ _ _ _ _ _ _ _ _ _ _ _ _ _ _ _ _ _ _ h1 h2 h3 B F X N T hk hd hu hf hc ha hi' hn hD hs ret
theorem in2_call2 {prog : Program} {w : World} {K : Frag} {mean : ExcName → Option Value} {mg mb : Str → Option Value} {f : Addr} {fo : Obj} {c' : Addr} {oc : Obj} {D ca ci ck : Addr} {oD oa oi ok : Obj} {sim : Nat → Int → Int → Option Int} {d : Nat} {dp un : Nat} {gd : Option (List Code)} {cn : Str} {cs : Scope} {a : Addr} {ccd : Value} {cl : List (Str × Addr)} {outer : List Env} {A₀ : Around} {base h₀ : Heap} {L : Addr} {m : Str → Option Value} {s : Shared} {Q E : Value → Shared → Prop} {news : Led} {v lo hi : Int} {tl th : Tok}
    (C : In2Spec prog w K mean mg mb f fo c' oc D ca ci ck oD oa oi ok sim d) (h1 : CodeHd base 51 47) (h2 : CodeHd base 58 54) (h3 : CodeHd base 130 128) (B : Below A₀ base outer h₀) (F : Fr h₀ L s.heap m) (X : K.In h₀) (N : News h₀ L s.heap news) (T : Top topProg loose0 mean mg mb h₀) (hk : cs.kind = .function) (hf : (f, fo) ∈ news) (hc : (c', oc) ∈ news) (ha : (ca, oa) ∈ news) (hi' : (ci, oi) ∈ news) (hn : (ck, ok) ∈ news) (hD : (D, oD) ∈ news) (hs : sim d lo hi = some v) (hd : dp + d + 2 < recursionLimit) (hu : un + 16 * d + 32 < cLine)
    (ret : ∀ (h' : Heap) (tk' : Nat) (t : Tok), Fr h₀ L h' m → News h₀ L h' news → Q (.int v t) { s with heap := h', toks := tk' })
    :
    wpAny (model prog w) (ktrTop dp un gd cn cs L a ccd cl outer) (call (.ref f) [.int lo tl, .int hi th]) Q E s :=
  in2_call h1 h2 h3 B F X N T hk hd hu hf hc ha hi' hn hD hs C ret
theorem in2_use {prog : Program} {w : World} {K : Frag} {mean : ExcName → Option Value} {mg mb : Str → Option Value} {f : Addr} {fo : Obj} {c' : Addr} {oc : Obj} {D ca ci ck : Addr} {oD oa oi ok : Obj} (sim : Nat → Int → Int → Option Int) (d : Nat)
    {dp un : Nat} {gd : Option (List Code)} {cn : Str} {cs : Scope} {a : Addr} {ccd : Value} {cl : List (Str × Addr)} {outer : List Env} {A₀ : Around} {base h₀ : Heap} {L : Addr} {m : Str → Option Value} {s : Shared} {Q E : Value → Shared → Prop} {news : Led} {v lo hi : Int} {tl th : Tok}
    (h1 : CodeHd base 51 47) (h2 : CodeHd base 58 54) (h3 : CodeHd base 130 128) (B : Below A₀ base outer h₀) (F : Fr h₀ L s.heap m) (X : K.In h₀) (N : News h₀ L s.heap news) (T : Top topProg loose0 mean mg mb h₀) (hk : cs.kind = .function) (hd : dp + d + 2 < recursionLimit) (hu : un + 16 * d + 32 < cLine)
    (hf : (f, fo) ∈ news) (hc : (c', oc) ∈ news) (ha : (ca, oa) ∈ news) (hi' : (ci, oi) ∈ news) (hn : (ck, ok) ∈ news) (hD : (D, oD) ∈ news) (hs : sim d lo hi = some v)
    (step : ∀ d, (∀ d', d' < d → In2Spec prog w K mean mg mb f fo c' oc D ca ci ck oD oa oi ok sim d') → In2Spec prog w K mean mg mb f fo c' oc D ca ci ck oD oa oi ok sim d)
    (ret : ∀ (h' : Heap) (tk' : Nat) (t : Tok), Fr h₀ L h' m → News h₀ L h' news → Q (.int v t) { s with heap := h', toks := tk' }) :
    wpAny (model prog w) (ktrTop dp un gd cn cs L a ccd cl outer) (call (.ref f) [.int lo tl, .int hi th]) Q E s := by
  have all : ∀ n, ∀ d, d < n → In2Spec prog w K mean mg mb f fo c' oc D ca ci ck oD oa oi ok sim d := by
    intro n
    induction n with
    | zero => intro d h; exact absurd h (Nat.not_lt_zero _)
    | succ n ih => exact fun d h => step d fun d' h' => ih d' (Nat.lt_of_lt_of_le h' (Nat.le_of_lt_succ h))
  exact in2_call h1 h2 h3 B F X N T hk hd hu hf hc ha hi' hn hD hs (all (d + 1) d (Nat.lt_succ_self _)) ret
noncomputable def d2Sim (n : Int) (ds : List Int) : Nat → Int → Int → Option Int
  | 0, _, _ => none
  | d + 1, lo, hi =>
    if lo + 1 = hi then (if 0 ≤ lo ∧ lo < (ds.length : Int) ∧ lo ≤ 100 then some (ds.getD lo.toNat 0) else none)
    else if 0 ≤ ((lo + hi).fdiv (2 ^ Int.toNat 1) - lo) * n ∧ ((lo + hi).fdiv (2 ^ Int.toNat 1) - lo) * n ≤ 60 ∧ 0 ≤ lo ∧ lo ≤ 100 ∧ 0 ≤ hi ∧ hi ≤ 100 then
      (match d2Sim n ds d ((lo + hi).fdiv (2 ^ Int.toNat 1)) hi with
      | none => none
      | some u => if 0 ≤ u ∧ u < 1048576 then (match d2Sim n ds d lo ((lo + hi).fdiv (2 ^ Int.toNat 1)) with
        | none => none
        | some v => some (u * 2 ^ (((lo + hi).fdiv (2 ^ Int.toNat 1) - lo) * n).toNat + v)) else none)
    else none
theorem d2Sim_cases {n lo hi v' : Int} {d : Nat} {ds : List Int} (h : d2Sim n ds d lo hi = some v') :
    (∃ e, d = e + 1 ∧ lo + 1 = hi ∧ 0 ≤ lo ∧ lo < (ds.length : Int) ∧ lo ≤ 100 ∧ v' = ds.getD lo.toNat 0) ∨
    (∃ e u v, d = e + 1 ∧ lo + 1 ≠ hi ∧ 0 ≤ ((lo + hi).fdiv (2 ^ Int.toNat 1) - lo) * n ∧ ((lo + hi).fdiv (2 ^ Int.toNat 1) - lo) * n ≤ 60 ∧ 0 ≤ lo ∧ lo ≤ 100 ∧ 0 ≤ hi ∧ hi ≤ 100 ∧ 0 ≤ u ∧ u < 1048576 ∧
      d2Sim n ds e ((lo + hi).fdiv (2 ^ Int.toNat 1)) hi = some u ∧ d2Sim n ds e lo ((lo + hi).fdiv (2 ^ Int.toNat 1)) = some v ∧ v' = u * 2 ^ (((lo + hi).fdiv (2 ^ Int.toNat 1) - lo) * n).toNat + v) := by
  cases d with
  | zero => simp [d2Sim] at h
  | succ e =>
    rw [d2Sim] at h
    split at h
    · split at h
      · rename_i h1 h2
        exact .inl ⟨e, rfl, h1, h2.1, h2.2.1, h2.2.2, (Option.some.inj h).symm⟩
      · cases h
    · split at h
      · rename_i h1 h2
        split at h
        · cases h
        · rename_i u e1
          split at h
          · rename_i h3
            split at h
            · cases h
            · rename_i v e2
              exact .inr ⟨e, u, v, rfl, h1, h2.1, h2.2.1, h2.2.2.1, h2.2.2.2.1, h2.2.2.2.2.1, h2.2.2.2.2.2, h3.1, h3.2, e1, e2, (Option.some.inj h).symm⟩
          · cases h
      · cases h
end
section
theorem in2_step (w : World) (mean : ExcName → Option Value) (mg mb : Str → Option Value) (prm : Arguments) (bd : List Stmt) (sc : Scope) (hb : nestAt Challenge.pw_pe0223_01 6 0 = some (prm, bd, sc)) (f c' D ca ci ck : Addr) (oc oa oi ok : Obj) (vsD : List Value) (cntD : Nat) (ds : List Int) (qual : Str) (doc pm ctv : Value) (vsc : Array Value) (tq : Tok) (n : Int) (tn : Tok)
    (hoc : oc.data = .fields vsc) (hq : vsc[1]? = some (.str qual tq)) (hoa : oa.data = .cell (some (.ref D))) (hoi : oi.data = .cell (some (.ref f))) (hok : ok.data = .cell (some (.int n tn))) (hn0 : 1 ≤ n) (hn1 : n ≤ 30) (hI : IntsAre vsD ds) (d : Nat)
    (IH : ∀ d', d' < d → In2Spec Challenge.rw_pe0223_01.row.prog w (hd.heap_39 w.params) mean mg mb f (fnMade (Str.ofString "inner") qual prm bd sc [(Str.ofString "n", ck), (Str.ofString "inner", ci), (Str.ofString "digits", ca)] doc pm c' ctv) c' oc D ca ci ck (listOf vsD.toArray cntD) oa oi ok (d2Sim n ds) d') :
    In2Spec Challenge.rw_pe0223_01.row.prog w (hd.heap_39 w.params) mean mg mb f (fnMade (Str.ofString "inner") qual prm bd sc [(Str.ofString "n", ck), (Str.ofString "inner", ci), (Str.ofString "digits", ca)] doc pm c' ctv) c' oc D ca ci ck (listOf vsD.toArray cntD) oa oi ok (d2Sim n ds) d := by
  w_top off
  k_with_none
  k_fill
  cases hb
  unfold In2Spec
  intro dp9 un9 gd9 cn9 cs9 a9 ccd9 cl9 outer9 A9 base9 h09 L9 m9 s9 Q9 E9 news9 v9 lo9 hi9 tl9 th9 hC19 hC29 hC39 B9 F9 X9 N9 T9 hk9 hd9 hu9 hf9 hc9 hca9 hci9 hck9 hcD9 hs9 hret9
  rcases d2Sim_cases hs9 with ⟨e9, rfl, q1, q2, q3, q4, rfl⟩ | ⟨e9, u9, v9, rfl, q1, q2, q3, q4, q5, q6, q7, q8, q9, q10, q11, rfl⟩
  all_goals (refine wpAny_call ?_)
  all_goals (((k_dflt (refine code_nest (by k_asm) (by k_asm) (by k_asm) (by k_asm) (by k_asm) (by exact rfl) (by exact rfl) (by assumption) (by k_mem) (by exact codeRec_news (by k_asm) (by k_mem) (by assumption) (by assumption)) (by ktr_room) (by exact BindsTo.of_eq rfl) (by exact locs rfl) ?_ (by exact rfl) (by exact rfl) (by exact rfl) (by decide); k_whole; intro zg' zL' zh' zFG' zF' zN' zB' zX' zT'; (try dsimp only); (try k_lift zB'); (try k_fold)))))
  all_goals (have C9 := IH e9 (Nat.lt_succ_self _))
  all_goals (k_with "call ref" => ((k_dflt (refine Mine.in2_call2 (by assumption) (by k_asm) (by k_asm) (by k_asm) (by k_asm) (by k_asm) (by k_asm) (by k_asm) (by k_asm) (by rfl) (by assumption) (by assumption) (by assumption) (by assumption) (by assumption) (by assumption) (by assumption) (by ktr_room) (by ktr_units) ?_); intro zh8 ztk8 zt8 zF8 zN8; (try dsimp only); (try k_fold))))
  all_goals k_steps
  all_goals first
    | (exfalso; omega)
    | exact hret9 _ _ _ (by k_asm) (by k_asm)
end
section
noncomputable def d2i (ds : List Int) (n : Int) : Option Int :=
  if 1 ≤ n ∧ n ≤ 30 ∧ ds.length ≤ 40 then (if ds.length = 0 then some 0 else d2Sim n ds 10 0 ds.length) else none
theorem d2S_of {ds : List Int} {n v : Int} (h : (if ds.length = 0 then some 0 else d2Sim n ds 10 0 ds.length) = some v) (hne : ds.length ≠ 0) : d2Sim n ds 10 0 (ds.length : Int) = some v := by
  rw [if_neg hne] at h
  exact h
theorem d2i_fin {h₀ h : Heap} {L l f c' y1 y2 y3 : Addr} {news : Led} {ol fo oc o1 o2 o3 : Obj} {ps vsc : Array Value} {t tv : Tok} {v : Int}
    (N : News h₀ L h ((f, fo) :: (c', oc) :: (y1, o1) :: (y2, o2) :: (y3, o3) :: (54, tabObj ps) :: (l, ol) :: news)) (hps : ps = #[rawInt 48, rawInt 4, .ref c']) (hd : oc.data = .fields vsc) (hv : vsc[1]? = some (.str (Str.ofString "_digits2int.<locals>.inner") t))
    (h1 : @LT.lt Nat _ 54 c') (h3 : @LT.lt Nat _ l c') (h2 : AllLt c' news) : ∃ news', TabInt 54 48 4 (Str.ofString "_digits2int.<locals>.inner") v ((l, ol) :: news) (.int v tv) news' ∧ News h₀ L h news' := by
  refine ⟨_, ⟨tv, [(c', oc)], ps, rfl, rfl, .inr ⟨c', oc, vsc, t, hps, List.Mem.head _, hd, hv⟩, ?_, ?_⟩, fun p hp => N p ?_⟩
  · intro q hq
    rw [List.mem_singleton.mp hq]
    exact h1
  · intro q hq
    rw [List.mem_singleton.mp hq]
    exact ⟨h3, h2⟩
  · simp only [List.mem_cons, List.cons_append, List.nil_append] at hp ⊢
    rcases hp with hp | hp | hp | hp <;> simp [hp]
theorem d2i_finH {h₀ h : Heap} {L f c₁ y1 y2 y3 : Addr} {news : Led} {fo oc₁ o1 o2 o3 : Obj} {vs₁ : Array Value} {t₁ tv : Tok} {v : Int}
    (N : News h₀ L h ((f, fo) :: (y1, o1) :: (y2, o2) :: (y3, o3) :: (54, tabObj #[rawInt 48, rawInt 4, .ref c₁]) :: news)) (hm₁ : (c₁, oc₁) ∈ news) (hd : oc₁.data = .fields vs₁) (hv : vs₁[1]? = some (.str (Str.ofString "_digits2int.<locals>.inner") t₁)) :
    ∃ news', TabInt 54 48 4 (Str.ofString "_digits2int.<locals>.inner") v news (.int v tv) news' ∧ News h₀ L h news' := by
  refine ⟨_, ⟨tv, [], _, rfl, rfl, .inr ⟨c₁, oc₁, vs₁, t₁, rfl, hm₁, hd, hv⟩, (fun q hq => nomatch hq), (fun q hq => nomatch hq)⟩, fun p hp => N p ?_⟩
  simp only [List.mem_cons, List.nil_append] at hp ⊢
  rcases hp with hp | hp <;> simp [hp]
theorem digits2int_e (w : World) (mean : ExcName → Option Value) (mg mb : Str → Option Value) (l : Addr) (vs : List Value) (cnt : Nat) (ds : List Int) (hI : IntsAre vs ds) (n : Int) (tn : Tok) (news : Led) (hbig : ∀ p ∈ news, p.1 ≠ 54) (hbl : @LT.lt Nat _ 54 l) (v : Int) (hsim : d2i ds n = some v) :
    Con Challenge.rw_pe0223_01.row.prog w (hd.heap_39 w.params) mean mg mb 59 [.ref l, .int n tn] ((54, tabObj #[]) :: (l, listOf vs.toArray cnt) :: news) 20 300 (TabInt 54 48 4 (Str.ofString "_digits2int.<locals>.inner") v ((l, listOf vs.toArray cnt) :: news)) := by
  w_top off
  k_with_none
  k_fill
  unfold d2i at hsim
  split at hsim
  case isFalse => cases hsim
  rename_i hc
  obtain ⟨hn0, hn1, hl0⟩ := hc
  have hkl := hI.length
  intro dp un gd cn cs a' ccd cl outer A₀ base h₀ L m s Q E hC1 hC2 hC3 B F X N T hk hd hu hret
  refine wpAny_call ?_
  ((k_dflt (refine code_defC (by k_asm) (by k_asm) (by k_asm) (by k_asm) (by k_asm) (by exact rfl) (by exact rfl) (by assumption) (by k_is) (by k_is) (by ktr_room) (by exact BindsTo.of_eq rfl) (by exact rfl) (by decide +kernel) ?_ (by exact rfl) (by exact rfl) (by exact rfl); k_whole; intro zg' zL' zh' ztk' zcells' zFG' zF' zN' zY' zB' zX' zT' zl1; (try k_lt zl1); k_cells zY'; (try simp only [List.cons_append, List.nil_append] at zN'); (try dsimp only); (try k_lift zB'); (try k_fold))))
  obtain ⟨_, _, hAL⟩ := (‹_ ∧ _ ∧ AllLt _ news›)
  k_steps
  · k_dflt (refine' Mine.in2_use (v := v) (Mine.d2Sim n ds) 10 ?b1 ?b2 ?b3 ?B ?F ?X ?N ?T ?K ?d ?u ?f ?c ?ca ?ci ?ck ?D ?s ?step ?_; (case N => assumption); (case b1 => k_asm); (case b2 => k_asm); (case b3 => k_asm); (case B => k_asm); (case F => k_asm); (case X => k_asm); (case T => k_asm); (case K => rfl); (case d => ktr_room); (case u => ktr_units); (case f => exact (List.Mem.head _)); (case c => exact (List.Mem.tail _ (List.Mem.head _))); (case ca => exact (List.Mem.tail _ (List.Mem.tail _ (List.Mem.tail _ (List.Mem.tail _ (List.Mem.head _)))))); (case ci => exact (List.Mem.tail _ (List.Mem.tail _ (List.Mem.head _)))); (case ck => exact (List.Mem.tail _ (List.Mem.tail _ (List.Mem.tail _ (List.Mem.head _))))); (case D => exact (List.Mem.tail _ (List.Mem.tail _ (List.Mem.tail _ (List.Mem.tail _ (List.Mem.tail _ (List.Mem.tail _ (List.Mem.head _)))))))); (case s => exact Mine.d2S_of hsim (by omega)); (case step => (intro d8 IH8; exact Mine.in2_step _ _ _ _ _ _ _ (by kernel_rfl) _ _ _ _ _ _ _ _ _ _ _ _ _ _ _ _ _ _ _ _ _ (by assumption) (by assumption) (by assumption) (by assumption) (by assumption) (by assumption) (by assumption) hI d8 IH8)))
    intro h8 tk8 t8 F8 N8
    (try dsimp only)
    (try k_fold)
    k_steps
    obtain ⟨nw, hR, hN⟩ := d2i_fin (v := v) (by assumption) (by rfl) (by assumption) (by assumption) (by omega) (by omega) (by tbn_find)
    exact hret _ _ _ _ hR (by k_asm) hN
  · have hv : v = 0 := by rw [if_pos (by omega)] at hsim; exact (Option.some.inj hsim).symm
    subst hv
    obtain ⟨nw, hR, hN⟩ := d2i_fin (v := 0) (by assumption) (by rfl) (by assumption) (by assumption) (by omega) (by omega) (by tbn_find)
    exact hret _ _ _ _ hR (by k_asm) hN
end
section
theorem digits2int_h (w : World) (mean : ExcName → Option Value) (mg mb : Str → Option Value) (l : Addr) (vs : List Value) (cnt : Nat) (ds : List Int) (hI : IntsAre vs ds) (n : Int) (tn : Tok) (news : Led) (c₁ : Addr) (oc₁ : Obj) (vs₁ : Array Value) (t₁ : Tok) (hm₁ : (c₁, oc₁) ∈ news) (hd₁ : oc₁.data = .fields vs₁) (hv₁ : vs₁[1]? = some (.str (Str.ofString "_digits2int.<locals>.inner") t₁)) (hbig : ∀ p ∈ news, p.1 ≠ 54) (hbl : @LT.lt Nat _ 54 l) (v : Int) (hsim : d2i ds n = some v) :
    Con Challenge.rw_pe0223_01.row.prog w (hd.heap_39 w.params) mean mg mb 59 [.ref l, .int n tn] ((54, tabObj #[rawInt 48, rawInt 4, .ref c₁]) :: (l, listOf vs.toArray cnt) :: news) 20 300 (TabInt 54 48 4 (Str.ofString "_digits2int.<locals>.inner") v ((l, listOf vs.toArray cnt) :: news)) := by
  w_top off
  k_with_none
  k_fill
  unfold d2i at hsim
  split at hsim
  case isFalse => cases hsim
  rename_i hc
  obtain ⟨hn0, hn1, hl0⟩ := hc
  have hkl := hI.length
  intro dp un gd cn cs a' ccd cl outer A₀ base h₀ L m s Q E hC1 hC2 hC3 B F X N T hk hd hu hret
  refine wpAny_call ?_
  ((k_dflt (refine code_defC (by k_asm) (by k_asm) (by k_asm) (by k_asm) (by k_asm) (by exact rfl) (by exact rfl) (by assumption) (by k_is) (by k_is) (by ktr_room) (by exact BindsTo.of_eq rfl) (by exact rfl) (by decide +kernel) ?_ (by exact rfl) (by exact rfl) (by exact rfl); k_whole; intro zg' zL' zh' ztk' zcells' zFG' zF' zN' zY' zB' zX' zT' zl1; (try k_lt zl1); k_cells zY'; (try simp only [List.cons_append, List.nil_append] at zN'); (try dsimp only); (try k_lift zB'); (try k_fold))))
  obtain ⟨_, _, hAL⟩ := (‹_ ∧ _ ∧ AllLt _ news›)
  k_steps
  · k_dflt (refine' Mine.in2_use (v := v) (Mine.d2Sim n ds) 10 ?b1 ?b2 ?b3 ?B ?F ?X ?N ?T ?K ?d ?u ?f ?c ?ca ?ci ?ck ?D ?s ?step ?_; (case N => assumption); (case b1 => k_asm); (case b2 => k_asm); (case b3 => k_asm); (case B => k_asm); (case F => k_asm); (case X => k_asm); (case T => k_asm); (case K => rfl); (case d => ktr_room); (case u => ktr_units); (case f => exact (List.Mem.head _)); (case c => exact (List.Mem.tail _ (List.Mem.tail _ (List.Mem.tail _ (List.Mem.tail _ (List.Mem.tail _ (List.Mem.tail _ hm₁))))))); (case ca => exact (List.Mem.tail _ (List.Mem.tail _ (List.Mem.tail _ (List.Mem.head _))))); (case ci => exact (List.Mem.tail _ (List.Mem.head _))); (case ck => exact (List.Mem.tail _ (List.Mem.tail _ (List.Mem.head _)))); (case D => exact (List.Mem.tail _ (List.Mem.tail _ (List.Mem.tail _ (List.Mem.tail _ (List.Mem.tail _ (List.Mem.head _))))))); (case s => exact Mine.d2S_of hsim (by omega)); (case step => (intro d8 IH8; exact Mine.in2_step _ _ _ _ _ _ _ (by kernel_rfl) _ _ _ _ _ _ _ _ _ _ _ _ _ _ _ _ _ _ _ _ _ (by assumption) (by assumption) (by assumption) (by assumption) (by assumption) (by assumption) (by assumption) hI d8 IH8)))
    intro h8 tk8 t8 F8 N8
    (try dsimp only)
    (try k_fold)
    k_steps
    obtain ⟨nw, hR, hN⟩ := d2i_finH (v := v) (by assumption) (List.Mem.tail _ hm₁) hd₁ hv₁
    exact hret _ _ _ _ hR (by k_asm) hN
  · have hv : v = 0 := by rw [if_pos (by omega)] at hsim; exact (Option.some.inj hsim).symm
    subst hv
    obtain ⟨nw, hR, hN⟩ := d2i_finH (v := 0) (by assumption) (List.Mem.tail _ hm₁) hd₁ hv₁
    exact hret _ _ _ _ hR (by k_asm) hN
theorem digits2int_c (w : World) (mean : ExcName → Option Value) (mg mb : Str → Option Value) (l : Addr) (vs : List Value) (cnt : Nat) (ds : List Int) (hI : IntsAre vs ds) (n : Int) (tn : Tok) (news : Led) (p : Array Value) (hp : Tab 48 4 (Str.ofString "_digits2int.<locals>.inner") news p) (hbig : ∀ p ∈ news, p.1 ≠ 54) (hbl : @LT.lt Nat _ 54 l) (v : Int) (hsim : d2i ds n = some v) :
    Con Challenge.rw_pe0223_01.row.prog w (hd.heap_39 w.params) mean mg mb 59 [.ref l, .int n tn] ((54, tabObj p) :: (l, listOf vs.toArray cnt) :: news) 20 300 (TabInt 54 48 4 (Str.ofString "_digits2int.<locals>.inner") v ((l, listOf vs.toArray cnt) :: news)) := by
  rcases hp with rfl | ⟨c, oc, vs₁, t, rfl, h2, h3, h4⟩
  · exact digits2int_e w mean mg mb l vs cnt ds hI n tn news hbig hbl v hsim
  · exact digits2int_h w mean mg mb l vs cnt ds hI n tn news c oc vs₁ t h2 h3 h4 hbig hbl v hsim
end
section
/-- a for's turn's end, and what is asked behind the body -/
noncomputable def FEnd {σ ι : Type} (h₀ : Heap) (L : Addr) (s : Shared) (I : Addr) (it : Obj) (lp : Led) (LL : σ → Led) (ps : σ → List (Str × Value)) (stored : List Str) (x : Str) (m₀ : Str → Option Value) (P : ι → σ → Prop) (r : ι) (s₂ : Shared) : Prop :=
  ∃ (c' : σ) (h' : Heap) (tk : Nat) (m' : Str → Option Value), s₂ = { s with heap := h', toks := tk } ∧ Fr h₀ L h' m' ∧ News h₀ L h' ((I, it) :: LL c') ∧ (∀ p ∈ LL c', p.1 ≠ I) ∧ (∀ p ∈ lp, p ∈ LL c') ∧ (∀ p ∈ ps c', m' p.1 = some p.2) ∧ (∀ z, z ≠ x → (∀ p ∈ ps c', z ≠ p.1) → stored.contains z = false → m' z = m₀ z) ∧ P r c'
noncomputable def FPost {σ ι : Type} (h₀ : Heap) (L : Addr) (s : Shared) (I : Addr) (it : Obj) (lp : Led) (LL : σ → Led) (ps : σ → List (Str × Value)) (stored : List Str) (x : Str) (m₀ : Str → Option Value) (P : ι → σ → Prop) (Q : Flow → Shared → Prop) (r : ι) (f : Flow) (s₂ : Shared) : Prop :=
  match f with
  | .ret v => Q (.ret v) s₂
  | .brk => Q .next s₂
  | _ => FEnd h₀ L s I it lp LL ps stored x m₀ P r s₂
theorem f_end {σ ι : Type} {h₀ : Heap} {L : Addr} {s : Shared} {I : Addr} {it : Obj} {lp : Led} {LL : σ → Led} {ps : σ → List (Str × Value)} {stored : List Str} {x : Str} {m₀ m' : Str → Option Value} {P : ι → σ → Prop} {r : ι} {h' : Heap} {tk : Nat} {news' : Led} (c' : σ)
    (F : Fr h₀ L h' m') (N : News h₀ L h' news') (hk : ∀ p ∈ ps c', m' p.1 = some p.2) (hr : ∀ z, z ≠ x → (∀ p ∈ ps c', z ≠ p.1) → stored.contains z = false → m' z = m₀ z) (hI : (I, it) ∈ news') (hn : ∀ p ∈ LL c', p ∈ news') (off : ∀ p ∈ LL c', p.1 ≠ I) (hl : ∀ p ∈ lp, p ∈ LL c') (hp : P r c') :
    FEnd h₀ L s I it lp LL ps stored x m₀ P r { s with heap := h', toks := tk } := ⟨c', h', tk, m', rfl, F, fun p hp => N p (by rcases List.mem_cons.mp hp with rfl | hp; exact hI; exact hn p hp), off, hl, hk, hr, hp⟩
section
variable {prog : Program} {w : World} {A : Around} {E : Value → Shared → Prop} {s : Shared} {env : Env} {h₀ : Heap} {x : Str} {body : List Stmt} {Q : Flow → Shared → Prop}
theorem f_rev {σ : Type} {I : Addr} {lp : Addr × Obj} {m₀ : Str → Option Value} (LL : σ → Led) (ps : σ → List (Str × Value)) (stored : List Str) (P : List Value → σ → Prop)
    (turn : ∀ (v : Value) (r : List Value) (c : σ) (u : Str → Option Value) (it : Obj) h tk, P (v :: r) c → it.cls = .type "list_reverseiterator" → Fr h₀ env.locals h (fun y => if y = x then some v else kstB (fun z => if stored.contains z then u z else m₀ z) (ps c) y) → News h₀ env.locals h ((I, it) :: LL c) → (∀ p ∈ LL c, p.1 ≠ I) →
      wpAny (model prog w) A (execs body env) (FPost h₀ env.locals { s with heap := h, toks := tk } I it [lp] LL ps stored x m₀ P Q r) E { s with heap := h, toks := tk })
    (done : ∀ (c : σ) (u : Str → Option Value) h tk, P [] c → Fr h₀ env.locals h (fun y => if y = x then u y else kstB (fun z => if stored.contains z then u z else m₀ z) (ps c) y) → News h₀ env.locals h (LL c) → Q .next { s with heap := h, toks := tk }) :
    ∀ (rest : List Value) (c : σ) (m : Str → Option Value), P rest c → (∀ p ∈ LL c, p.1 ≠ I) → (∀ p ∈ ps c, m p.1 = some p.2) → (∀ z, z ≠ x → (∀ p ∈ ps c, z ≠ p.1) → stored.contains z = false → m z = m₀ z) → RevRest prog w A E h₀ env x body Q s I lp rest m (LL c) := by
  intro rest
  induction rest with
  | nil =>
    intro c m hp _ hk hr h tk F N
    exact done c m h tk hp (kst_frOut hk hr F) N
  | cons v r ih =>
    intro c m hp off hk hr it h tk hic F N
    refine wpAny_mono (turn v r c m it h tk hp hic (kst_fr hk hr F) N off) (fun f s₂ q => ?_) fun _ _ e => e
    have go : FEnd h₀ env.locals { s with heap := h, toks := tk } I it [lp] LL ps stored x m₀ P r s₂ → UnrEnd h₀ env.locals { s with heap := h, toks := tk } I it (fun m' n' => lp ∈ n' ∧ RevRest prog w A E h₀ env x body Q s I lp r m' n') s₂ := by
      rintro ⟨c', h', tk', m', e, F', N', off', hl', hk', hr', hp'⟩
      exact ⟨h', tk', m', LL c', e, F', N', off', hl' lp (List.Mem.head _), ih c' m' hp' off' hk' hr'⟩
    cases f with
    | ret v => exact q
    | brk => exact q
    | next => exact go q
    | cont => exact go q
end
theorem con_use {prog : Program} {w : World} {K : Frag} {mean : ExcName → Option Value} {mg mb : Str → Option Value} {f : Addr} {args : List Value} {news led : Led} {D U : Nat} {R : Value → Led → Prop}
    {dp un : Nat} {gd : Option (List Code)} {cn : Str} {cs : Scope} {a : Addr} {ccd : Value} {cl : List (Str × Addr)} {outer : List Env} {A₀ : Around} {base h₀ : Heap} {L : Addr} {m : Str → Option Value} {s : Shared} {Q E : Value → Shared → Prop}
    (C : Con prog w K mean mg mb f args news D U R) (h1 : CodeHd base 51 47) (h2 : CodeHd base 58 54) (h3 : CodeHd base 130 128) (B : Below A₀ base outer h₀) (F : Fr h₀ L s.heap m) (X : K.In h₀) (N : News h₀ L s.heap led) (T : Top topProg loose0 mean mg mb h₀) (hk : cs.kind = .function) (hd : dp + D < recursionLimit) (hu : un + U < cLine) (hl : ∀ p ∈ news, p ∈ led)
    (ret : ∀ (r : Value) (news' : Led) (h' : Heap) (tk' : Nat), R r news' → Fr h₀ L h' m → News h₀ L h' news' → Q r { s with heap := h', toks := tk' }) :
    wpAny (model prog w) (ktrTop dp un gd cn cs L a ccd cl outer) (call (.ref f) args) Q E s :=
  C _ _ _ _ _ _ _ _ _ _ _ _ _ _ _ _ _ h1 h2 h3 B F X (fun p hp => N p (hl p hp)) T hk hd hu ret
theorem con_use2 {prog : Program} {w : World} {K : Frag} {mean : ExcName → Option Value} {mg mb : Str → Option Value} {f : Addr} {args : List Value} {news led : Led} {D U : Nat} {R : Value → Led → Prop}
    {dp un : Nat} {gd : Option (List Code)} {cn : Str} {cs : Scope} {a : Addr} {ccd : Value} {cl : List (Str × Addr)} {outer : List Env} {A₀ : Around} {base h₀ : Heap} {L : Addr} {m : Str → Option Value} {s : Shared} {Q E : Value → Shared → Prop}
    (N : News h₀ L s.heap led) (hl : ∀ p ∈ news, p ∈ led) (T : Top topProg loose0 mean mg mb h₀) (X : K.In h₀) (C : Con prog w K mean mg mb f args news D U R) (h1 : CodeHd base 51 47) (h2 : CodeHd base 58 54) (h3 : CodeHd base 130 128) (B : Below A₀ base outer h₀) (F : Fr h₀ L s.heap m) (hk : cs.kind = .function) (hd : dp + D < recursionLimit) (hu : un + U < cLine)
    (ret : ∀ (r : Value) (news' : Led) (h' : Heap) (tk' : Nat), R r news' → Fr h₀ L h' m → News h₀ L h' news' → Q r { s with heap := h', toks := tk' }) :
    wpAny (model prog w) (ktrTop dp un gd cn cs L a ccd cl outer) (call (.ref f) args) Q E s :=
  con_use C h1 h2 h3 B F X N T hk hd hu hl ret
/-- a mark at which the walk stops -/
noncomputable def Stop (P : Prop) : Prop := P
theorem stop_out {P : Prop} (h : Stop P) : P := h
theorem stop_in {P : Prop} (h : P) : Stop P := h
end
section
section
variable {prog : Program} {w : World} {A : Around} {E : Value → Shared → Prop} {s : Shared} {env : Env} {h₀ : Heap} {x : Str} {target : Expr} {body : List Stmt} {Q : Flow → Shared → Prop}
theorem f_range {σ : Type} {I : Addr} {m₀ : Str → Option Value} {a : Int} {n : Nat} (LL : σ → Led) (ps : σ → List (Str × Value)) (stored : List Str) (P : Nat → σ → Prop)
    (turn : ∀ (t : Tok) (k i : Nat) (c : σ) (u : Str → Option Value) h tk, i + k + 1 = n → P (k + 1) c → Fr h₀ env.locals h (fun y => if y = x then some (.int (a + (i : Int)) t) else kstB (fun z => if stored.contains z then u z else m₀ z) (ps c) y) → News h₀ env.locals h ((I, itR (a + ((i + 1 : Nat) : Int)) ((n : Int) - ((i + 1 : Nat) : Int))) :: LL c) → (∀ p ∈ LL c, p.1 ≠ I) →
      wpAny (model prog w) A (execs body env) (FPost h₀ env.locals { s with heap := h, toks := tk } I (itR (a + ((i + 1 : Nat) : Int)) ((n : Int) - ((i + 1 : Nat) : Int))) [] LL ps stored x m₀ P Q k) E { s with heap := h, toks := tk })
    (done : ∀ (c : σ) (u : Str → Option Value) h tk, P 0 c → Fr h₀ env.locals h (fun y => if y = x then u y else kstB (fun z => if stored.contains z then u z else m₀ z) (ps c) y) → News h₀ env.locals h (LL c) → Q .next { s with heap := h, toks := tk }) :
    ∀ (k i : Nat) (c : σ) (m : Str → Option Value), i + k = n → P k c → (∀ p ∈ LL c, p.1 ≠ I) → (∀ p ∈ ps c, m p.1 = some p.2) → (∀ z, z ≠ x → (∀ p ∈ ps c, z ≠ p.1) → stored.contains z = false → m z = m₀ z) → RangeRest prog w A E h₀ env x body Q s I a n k i m (LL c) := by
  intro k
  induction k with
  | zero =>
    intro i c m _ hp _ hk hr h tk F N
    exact done c m h tk hp (kst_frOut hk hr F) N
  | succ k ih =>
    intro i c m hi hp off hk hr t h tk F N
    refine wpAny_mono (turn t k i c m h tk hi hp (kst_fr hk hr F) N off) (fun f s₂ q => ?_) fun _ _ e => e
    have go : FEnd h₀ env.locals { s with heap := h, toks := tk } I (itR (a + ((i + 1 : Nat) : Int)) ((n : Int) - ((i + 1 : Nat) : Int))) [] LL ps stored x m₀ P k s₂ → UnrEnd h₀ env.locals { s with heap := h, toks := tk } I (itR (a + ((i + 1 : Nat) : Int)) ((n : Int) - ((i + 1 : Nat) : Int))) (RangeRest prog w A E h₀ env x body Q s I a n k (i + 1)) s₂ := by
      rintro ⟨c', h', tk', m', e, F', N', off', hl', hk', hr', hp'⟩
      exact ⟨h', tk', m', LL c', e, F', N', off', ih (i + 1) c' m' (by omega) hp' off' hk' hr'⟩
    cases f with
    | ret v => exact q
    | brk => exact q
    | next => exact go q
    | cont => exact go q
theorem f_items {σ : Type} (ic : String) {I : Addr} {lp : Addr × Obj} {m₀ : Str → Option Value} (LL : σ → Led) (ps : σ → List (Str × Value)) (stored : List Str) (hx : stored.contains x = true) (P : List Value → σ → Prop)
    (turn : ∀ (v : Value) (r : List Value) (c : σ) (u : Str → Option Value) (it : Obj) h tk, P (v :: r) c → it.cls = .type ic → Fr h₀ env.locals h (kstB (fun z => if stored.contains z then u z else m₀ z) (ps c)) → News h₀ env.locals h ((I, it) :: LL c) → (∀ p ∈ LL c, p.1 ≠ I) →
      wpAny (model prog w) A (assign target env v) (fun _ s₂ => wpAny (model prog w) A (execs body env) (FPost h₀ env.locals { s with heap := h, toks := tk } I it [lp] LL ps stored x m₀ P Q r) E s₂) E { s with heap := h, toks := tk })
    (done : ∀ (c : σ) (u : Str → Option Value) h tk, P [] c → Fr h₀ env.locals h (kstB (fun z => if stored.contains z then u z else m₀ z) (ps c)) → News h₀ env.locals h (LL c) → Q .next { s with heap := h, toks := tk }) :
    ∀ (rest : List Value) (c : σ) (m : Str → Option Value), P rest c → (∀ p ∈ LL c, p.1 ≠ I) → (∀ p ∈ ps c, m p.1 = some p.2) → (∀ z, (∀ p ∈ ps c, z ≠ p.1) → stored.contains z = false → m z = m₀ z) → ItemsRest prog w A E h₀ env target body Q s [(I, ic)] [lp] (rest.map .val) m (LL c) := by
  intro rest
  induction rest with
  | nil =>
    intro c m hp _ hk hr h tk F N
    exact done c m h tk hp (ksw_fr hk hr F) N
  | cons v r ih =>
    intro c m hp off hk hr
    refine ItemsRest.val fun h tk F => AllObj.cons fun it hic => AllObj.nil fun N => ?_
    refine wpAny_mono (turn v r c m it h tk hp hic (ksw_fr hk hr F) N off) (fun _ s₂ q => wpAny_mono q (fun f s₃ q => ?_) fun _ _ e => e) fun _ _ e => e
    have go : FEnd h₀ env.locals { s with heap := h, toks := tk } I it [lp] LL ps stored x m₀ P r s₃ → UnrEndW h₀ env.locals { s with heap := h, toks := tk } [(I, it)] (fun m' n' => SubL [lp] n' ∧ ItemsRest prog w A E h₀ env target body Q s [(I, ic)] [lp] (r.map .val) m' n') s₃ := by
      rintro ⟨c', h', tk', m', e, F', N', off', hl', hk', hr', hp'⟩
      refine ⟨h', tk', m', LL c', e, F', N', fun p hp q hq => ?_, ⟨hl' lp (List.Mem.head _), trivial⟩, ih c' m' hp' off' hk' fun z hz hs => hr' z (fun e => ?_) hz hs⟩
      · rw [List.mem_singleton.mp hq]; exact off' p hp
      · rw [e, hx] at hs; cases hs
    cases f with
    | ret v => exact q
    | brk => exact q
    | next => exact go q
    | cont => exact go q
end
/-- the values of a list of pairs of ints, borne by the ledger -/
inductive PairsAre (led : Led) : List Value → List (Int × Int) → Prop
  | nil : PairsAre led [] []
  | cons {a : Addr} {x y : Int} {t u : Tok} {vs : List Value} {ps : List (Int × Int)} (h : (a, ({ cls := .type "tuple", data := .seq #[.int x t, .int y u] } : Obj)) ∈ led) (r : PairsAre led vs ps) : PairsAre led (.ref a :: vs) ((x, y) :: ps)
theorem PairsAre.mono {led led' : Led} (hs : ∀ p ∈ led, p ∈ led') {vs : List Value} {ps : List (Int × Int)} (h : PairsAre led vs ps) : PairsAre led' vs ps := by
  induction h with
  | nil => exact .nil
  | cons h _ ih => exact .cons (hs _ h) ih
theorem PairsAre.append {led : Led} {vs us : List Value} {ps qs : List (Int × Int)} (h : PairsAre led vs ps) (g : PairsAre led us qs) : PairsAre led (vs ++ us) (ps ++ qs) := by
  induction h with
  | nil => exact g
  | cons h _ ih => exact .cons h ih
theorem PairsAre.length {led : Led} {vs : List Value} {ps : List (Int × Int)} (h : PairsAre led vs ps) : vs.length = ps.length := by
  induction h with
  | nil => rfl
  | cons _ _ ih => simp [ih]
theorem PairsAre.at {led : Led} {vs : List Value} {ps : List (Int × Int)} (h : PairsAre led vs ps) : ∀ (i : Nat), i < ps.length → ∃ a t u, vs[i]? = some (.ref a) ∧ (a, ({ cls := .type "tuple", data := .seq #[.int (ps.getD i (0, 0)).1 t, .int (ps.getD i (0, 0)).2 u] } : Obj)) ∈ led := by
  induction h with
  | nil => intro i hi; exact absurd hi (Nat.not_lt_zero _)
  | @cons a x y t u vs ps h _ ih =>
    intro i hi
    cases i with
    | zero => exact ⟨a, t, u, rfl, h⟩
    | succ i => exact ih i (Nat.lt_of_succ_lt_succ hi)
theorem PairsAre.take {led : Led} {vs : List Value} {ps : List (Int × Int)} (h : PairsAre led vs ps) : ∀ i : Nat, PairsAre led (vs.take i) (ps.take i) := by
  induction h with
  | nil => intro i; simp; exact .nil
  | cons h _ ih => intro i; cases i with
    | zero => exact .nil
    | succ i => exact .cons h (ih i)
theorem News.cons' {h₀ : Heap} {L : Addr} {h : Heap} {l : Led} {p q : Addr × Obj} (N : News h₀ L h (q :: l)) (hm : p ∈ l) : News h₀ L h (p :: q :: l) := fun r hr => by
  rcases List.mem_cons.mp hr with rfl | hr
  · exact N _ (List.Mem.tail _ hm)
  · exact N _ hr
end
section
section
variable {prog : Program} {w : World} {A : Around} {E : Value → Shared → Prop} {s : Shared} {env : Env} {h₀ : Heap} {x : Str} {body : List Stmt} {Q : Flow → Shared → Prop}
/-- a for over a list, by a state; a turn knows that the iterator is no code object -/
theorem loop_list {σ : Type} {ax : Addr} {vs : List Value} {n : Nat} {m₀ : Str → Option Value} (LL : σ → Led) (ps : σ → List (Str × Value)) (stored : List Str) (P : List Value → σ → Prop) (c₀ : σ)
    (hh : A.handled = none) (F : Fr h₀ env.locals s.heap m₀) (N : News h₀ env.locals s.heap (LL c₀)) (hm : ∀ c, (ax, listOf vs.toArray n) ∈ LL c) (hk : ∀ p ∈ ps c₀, m₀ p.1 = some p.2) (hp : P vs c₀)
    (turn : ∀ (I : Addr) (v : Value) (r : List Value) (c : σ) (u : Str → Option Value) (it : Obj) h tk, (∀ p ∈ LL c₀, p.1 < I) → P (v :: r) c → (∀ vs', it.data = .fields vs' → ∀ (q : Str) (t : Tok), vs'[1]? ≠ some (.str q t)) → Fr h₀ env.locals h (fun y => if y = x then some v else kstB (fun z => if stored.contains z then u z else m₀ z) (ps c) y) → News h₀ env.locals h ((I, it) :: LL c) → (∀ p ∈ LL c, p.1 ≠ I) →
      wpAny (model prog w) A (execs body env) (FPost h₀ env.locals { s with heap := h, toks := tk } I it [] LL ps stored x m₀ P Q r) E { s with heap := h, toks := tk })
    (done : ∀ (c : σ) (u : Str → Option Value) h tk, P [] c → Fr h₀ env.locals h (fun y => if y = x then u y else kstB (fun z => if stored.contains z then u z else m₀ z) (ps c) y) → News h₀ env.locals h (LL c) → Q .next { s with heap := h, toks := tk }) :
    wpAny (model prog w) A (pyIter (.ref ax)) (fun it s₂ => LoopAtV prog w A h₀ env x body Q E it s₂) E s := by
  have hax := N _ (hm c₀)
  have hl : s.heap.IsList ax vs.toArray := ⟨_, hax.1, rfl, n, rfl⟩
  have hlt : ax < s.heap.objs.size := Heap.lt_size hax.1
  have hne : ax ≠ s.heap.objs.size := Nat.ne_of_lt hlt
  refine wpAny_pyIter_list hl ?_
  have W := Walks.list (prog := prog) (w := w) hh s.heap.objs.size ax hne vs.toArray
  rw [List.size_toArray] at W
  have hnew := next_is_new F
  let J : Nat → (Str → Option Value) → Led → Prop := fun i m₁ news₁ => ∃ c, news₁ = LL c ∧ (∀ p ∈ ps c, m₁ p.1 = some p.2) ∧ (∀ z, z ≠ x → (∀ p ∈ ps c, z ≠ p.1) → stored.contains z = false → m₁ z = m₀ z) ∧ P (vs.drop i) c
  refine ⟨_, _, _, vs.length, _, _, m₀, LL c₀, J, rfl, W, ?_, ?_, ?_, ⟨⟨_, Heap.get?_push_size _ rfl, rfl, rfl⟩, hl.at fun o e => Heap.get?_push_of_some _ e⟩, F.push _, (fun p hp => ⟨Heap.get?_push_of_some _ (N p hp).1, (N p hp).2⟩), ⟨c₀, rfl, hk, fun _ _ _ _ => rfl, by rw [List.drop_zero]; exact hp⟩, ?_, ?_⟩
  · intro hq
    rcases List.mem_cons.mp hq with e | hq
    · exact absurd F.ns.lt (e ▸ Nat.lt_irrefl _)
    · exact hax.2.1 (List.mem_singleton.mp hq).symm
  · intro b hb
    rw [List.mem_singleton.mp hb]
    exact hnew
  · intro p hp hI
    exact absurd (Heap.lt_size (N p hp).1) ((List.mem_singleton.mp hI) ▸ Nat.lt_irrefl _)
  · rintro i v m₁ news₁ s₁ own ⟨hh', tk', rfl⟩ hin hPv ⟨c, rfl, hk1, hr1, hp1⟩ hoff hown hget hall hst F₁ N₁
    obtain ⟨it, hit, hic, hid⟩ := hst.1
    have hmemI := hall s.heap.objs.size (List.mem_cons_self ..) hnew _ hit
    have hdrop : vs.drop i = v :: vs.drop (i + 1) := by
      have hv : vs[i]? = some v := by simpa using hPv
      rw [List.drop_eq_getElem_cons hin]
      congr 1
      exact Option.some.inj ((List.getElem?_eq_getElem hin).symm.trans hv)
    rw [hdrop] at hp1
    have N₂ : News h₀ env.locals hh' ((s.heap.objs.size, it) :: LL c) := fun p hp => by
      rcases List.mem_cons.mp hp with rfl | hp
      · exact N₁ _ (List.mem_append_left _ hmemI)
      · exact N₁ _ (List.mem_append_right _ hp)
    refine wpAny_mono (turn s.heap.objs.size v (vs.drop (i + 1)) c m₁ it hh' tk' (fun p hp => Heap.lt_size (N p hp).1) hp1 (fun vs' e q t => ?_) (kst_fr hk1 hr1 F₁) N₂ (fun p hp e => hoff p hp (List.mem_singleton.mpr e))) (fun f s₂ q => ?_) fun _ _ e => e
    · rw [hid] at e
      cases e
      simp
    · have go : FEnd h₀ env.locals { s with heap := hh', toks := tk' } s.heap.objs.size it [] LL ps stored x m₀ P (vs.drop (i + 1)) s₂ → LoopStepU h₀ env.locals [s.heap.objs.size] own (J (i + 1)) { s with heap := hh', toks := tk' } .next s₂ := by
        rintro ⟨c', h', tk, m', e, F', N', off', hl', hk', hr', hp'⟩
        refine ⟨rfl, h', tk, m', LL c', e, F', fun p hp => ?_, fun p hp hI => off' p hp (List.mem_singleton.mp hI), c', rfl, hk', hr', hp'⟩
        rcases List.mem_append.mp hp with hp | hp
        · have h2 : hh'.get? p.1 = some p.2 := hget p hp
          rcases List.mem_cons.mp (hown p hp) with h1 | h1
          · have h3 : p = (s.heap.objs.size, it) := by
              rw [h1, hit] at h2
              exact Prod.ext h1 (Option.some.inj h2).symm
            rw [h3]; exact N' _ (List.mem_cons_self ..)
          · have h1' : p.1 = ax := List.mem_singleton.mp h1
            have h3 : p = (ax, listOf vs.toArray n) := by
              rw [h1', (N₁ _ (List.mem_append_right _ (hm c))).1] at h2
              exact Prod.ext h1' (Option.some.inj h2).symm
            rw [h3]; exact N' _ (List.mem_cons_of_mem _ (hm c'))
        · exact N' _ (List.mem_cons_of_mem _ hp)
      cases f with
      | ret v => exact .ret q
      | brk => exact .brk q
      | next => exact .next (go q)
      | cont => exact .cont (go q)
  · rintro h' tk m' news' F' N' _ ⟨c, rfl, hk', hr', hp'⟩
    rw [List.drop_length] at hp'
    exact done c m' h' tk hp' (kst_frOut hk' hr' F') N'
end
theorem tab_drop2 {line col : Int} {qual : Str} {pre post : Led} {ps : Array Value} {a : Addr × Obj} (ha : ∀ vs, a.2.data = .fields vs → ∀ (q : Str) (t : Tok), vs[1]? ≠ some (.str q t)) (h : Tab line col qual (pre ++ a :: post) ps) : Tab line col qual (pre ++ post) ps := by
  rcases h with h | ⟨c, oc, vs', t, h1, h2, h3, h4⟩
  · exact .inl h
  · refine .inr ⟨c, oc, vs', t, h1, ?_, h3, h4⟩
    simp only [List.mem_append, List.mem_cons] at h2 ⊢
    rcases h2 with h2 | h2 | h2
    · exact .inl h2
    · rw [← h2] at ha; exact absurd h4 (ha _ h3 _ _)
    · exact .inr h2
end
section
theorem allLt_of' {d : Nat} : ∀ {l : Led}, (∀ p ∈ l, p.1 < d) → AllLt d l
  | [], _ => trivial
  | p :: _, h => ⟨h p (.head _), allLt_of' fun q hq => h q (.tail _ hq)⟩
theorem divmod_D {prog : Program} {w : World} {A : Around} {E : Value → Shared → Prop} {s : Shared} {Q : Value → Shared → Prop} {h₀ : Heap} {L : Addr} {m : Str → Option Value} {news : Led} {a b : Int} {t u : Tok} (F : Fr h₀ L s.heap m) (N : News h₀ L s.heap news) (hb : b ≠ 0) (h1 : 0 ≤ b) (h2 : b ≤ 1048576)
    (h : ∀ D t1 t2 h' tk', Fr h₀ L h' m → News h₀ L h' ((D, ({ cls := .type "tuple", data := .seq #[.int (a.fdiv b) t1, .int (a.fmod b) t2] } : Obj)) :: news) → AllLt D news → Q (.ref D) { s with heap := h', toks := tk' }) :
    wpAny (model prog w) A (call (.builtin "divmod") [.int a t, .int b u]) Q E s :=
  divmod_N F N hb (fun h' F' N' => h _ _ _ h' _ F' N' (allLt_of' fun p hp => Heap.lt_size (N p hp).1)) (Or.inl (PyProof.noPylong_small (by omega)))
theorem div2n1n_c (w : World) (mean : ExcName → Option Value) (mg mb : Str → Option Value) (x : Int) (tx : Tok) (b : Int) (tb : Tok) (n : Int) (tn : Tok) (news : Led) (h0 : ((Builtin.Int.intBits x : Nat) : Int) - n ≤ 4000) (hb : 1 ≤ b) (hb1 : b ≤ 1048576) :
    Con Challenge.rw_pe0223_01.row.prog w (hd.heap_39 w.params) mean mg mb 38 [.int x tx, .int b tb, .int n tn] news 5 100 (fun r news' => ∃ D t1 t2, r = .ref D ∧ news' = (D, ({ cls := .type "tuple", data := .seq #[.int (x.fdiv b) t1, .int (x.fmod b) t2] } : Obj)) :: news ∧ AllLt D news) := by
  w_top off
  k_with_none
  k_fill
  intro dp un gd cn cs a' ccd cl outer A₀ base h₀ L m s Q E hC1 hC2 hC3 B F X N T hk hd hu hret
  refine wpAny_call ?_
  ((k_dflt cell_enter))
  k_with "call builtin:divmod" => ((k_dflt (refine Mine.divmod_D (by k_asm) (by k_asm) (by omega) (by omega) (by omega) ?_); intro zD8 zt8 zu8 zh8 ztk8 zF8 zN8 zhA8))
  k_steps
  all_goals exact hret _ _ _ _ ⟨_, _, _, rfl, rfl, by assumption⟩ (by k_asm) (by k_asm)
end
section
noncomputable def dvSim (b n : Int) : List Int → Int → List Int → Option (List Int × Int)
  | [], r, qs => some (qs, r)
  | d :: ds, r, qs => if 0 ≤ r ∧ r < 1048576 ∧ 0 ≤ d ∧ d < 1073741824 ∧ 1 ≤ b ∧ b ≤ 1048576 ∧ ((Builtin.Int.intBits (r * 2 ^ n.toNat + d) : Nat) : Int) - n ≤ 4000 then dvSim b n ds ((r * 2 ^ n.toNat + d).fmod b) (qs ++ [(r * 2 ^ n.toNat + d).fdiv b]) else none
noncomputable abbrev DvS := Int × Tok × List Value × List Int × Nat
noncomputable def DvP (b n : Int) (res : List Int × Int) (rest : List Value) (c : DvS) : Prop := ∃ ds, IntsAre rest ds ∧ IntsAre c.2.2.1 c.2.2.2.1 ∧ dvSim b n ds c.1 c.2.2.2.1 = some res ∧ c.2.2.1.length + rest.length ≤ 40
theorem DvP.next {b n : Int} {res : List Int × Int} {v : Value} {rest : List Value} {rr : Int} {tr : Tok} {qv : List Value} {qs : List Int} {cnt : Nat} (h : DvP b n res (v :: rest) (rr, tr, qv, qs, cnt)) :
    ∃ d t, v = .int d t ∧ 0 ≤ rr ∧ rr < 1048576 ∧ 0 ≤ d ∧ d < 1073741824 ∧ 1 ≤ b ∧ b ≤ 1048576 ∧ ((Builtin.Int.intBits (rr * 2 ^ n.toNat + d) : Nat) : Int) - n ≤ 4000 ∧ IntsAre qv qs ∧ qv.length ≤ 39 ∧
      ∀ t1 t2 cnt', DvP b n res rest ((rr * 2 ^ n.toNat + d).fmod b, t1, qv ++ [.int ((rr * 2 ^ n.toNat + d).fdiv b) t2], qs ++ [(rr * 2 ^ n.toNat + d).fdiv b], cnt') := by
  obtain ⟨ds, h1, h2, h3, h4⟩ := h
  cases h1 with
  | cons d t h1 =>
    rw [dvSim] at h3
    split at h3
    · rename_i hc
      refine ⟨_, _, rfl, hc.1, hc.2.1, hc.2.2.1, hc.2.2.2.1, hc.2.2.2.2.1, hc.2.2.2.2.2.1, hc.2.2.2.2.2.2, h2, ?_, fun t1 t2 cnt' => ⟨_, h1, ?_, h3, ?_⟩⟩
      · simp only [List.length_cons] at h4; omega
      · exact IntsAre.append h2 (.cons _ _ .nil)
      · simp only [List.length_append, List.length_cons, List.length_nil] at h4 ⊢; omega
    · cases h3
theorem DvP.stop {b n : Int} {res : List Int × Int} {c : DvS} (h : DvP b n res [] c) : IntsAre c.2.2.1 res.1 ∧ c.1 = res.2 ∧ c.2.2.1.length ≤ 40 := by
  obtain ⟨ds, h1, h2, h3, h4⟩ := h
  cases h1
  rw [dvSim] at h3
  have := Option.some.inj h3
  subst this
  exact ⟨h2, rfl, by simpa using h4⟩
theorem rev_dv {prog : Program} {w : World} {A : Around} {E : Value → Shared → Prop} {s : Shared} {env : Env} {h₀ : Heap} {x : Str} {body : List Stmt} {Q : Flow → Shared → Prop} {I ql : Addr} {rest : Led} {lp : Addr × Obj} {m : Str → Option Value} {vs : List Value} {qv : List Value} {qs : List Int} {cnt : Nat} (b n : Int) (res : List Int × Int) (rr : Int) (tr : Tok)
    (hp : DvP b n res vs (rr, tr, qv, qs, cnt)) (off : ∀ p ∈ (ql, listOf qv.toArray cnt) :: rest, p.1 ≠ I) (hr : m (Str.ofString "r") = some (.int rr tr)) (hlp : lp ∈ rest)
    (turn : ∀ (v : Value) (r : List Value) (rr : Int) (tr : Tok) (qv : List Value) (qs : List Int) (cnt : Nat) (u : Str → Option Value) (it : Obj) h tk, DvP b n res (v :: r) (rr, tr, qv, qs, cnt) → it.cls = .type "list_reverseiterator" → Fr h₀ env.locals h (fun y => if y = x then some v else kstB (fun z => if [Str.ofString "q_digit"].contains z then u z else m z) [(Str.ofString "r", .int rr tr)] y) → News h₀ env.locals h ((I, it) :: (ql, listOf qv.toArray cnt) :: rest) →
      wpAny (model prog w) A (execs body env) (FPost h₀ env.locals { s with heap := h, toks := tk } I it [lp] (fun c : DvS => (ql, listOf c.2.2.1.toArray c.2.2.2.2) :: rest) (fun c => [(Str.ofString "r", .int c.1 c.2.1)]) [Str.ofString "q_digit"] x m (DvP b n res) Q r) E { s with heap := h, toks := tk })
    (done : ∀ (qv : List Value) (tr : Tok) (cnt : Nat) (u : Str → Option Value) h tk, IntsAre qv res.1 → qv.length ≤ 40 → Fr h₀ env.locals h (fun y => if y = x then u y else kstB (fun z => if [Str.ofString "q_digit"].contains z then u z else m z) [(Str.ofString "r", .int res.2 tr)] y) → News h₀ env.locals h ((ql, listOf qv.toArray cnt) :: rest) → Q .next { s with heap := h, toks := tk }) :
    RevRest prog w A E h₀ env x body Q s I lp vs m ((ql, listOf qv.toArray cnt) :: rest) :=
  f_rev (σ := DvS) (I := I) (lp := lp) (fun c => (ql, listOf c.2.2.1.toArray c.2.2.2.2) :: rest) (fun c => [(Str.ofString "r", .int c.1 c.2.1)]) [Str.ofString "q_digit"] (DvP b n res)
    (fun v r c u it h tk hp hic F N _ => turn v r c.1 c.2.1 c.2.2.1 c.2.2.2.1 c.2.2.2.2 u it h tk hp hic F N)
    (fun c u h tk hp F N => by obtain ⟨h1, h2, h3⟩ := hp.stop; exact done c.2.2.1 c.2.1 c.2.2.2.2 u h tk h1 h3 (h2 ▸ F) N)
    vs (rr, tr, qv, qs, cnt) m hp off (fun p hp => by rw [List.mem_singleton.mp hp]; exact hr) (fun _ _ _ _ => rfl)
theorem offI_of {I : Addr} {it : Obj} : ∀ {l : Led}, (∀ p ∈ l, p.1 ≠ I) → OffI I it l
  | [], _ => trivial
  | p :: _, h => ⟨.inl (h p (List.Mem.head _)), offI_of fun q hq => h q (List.Mem.tail _ hq)⟩
theorem ints_rev {vs : List Value} {ns : List Int} (h : IntsAre vs ns) : IntsAre vs.reverse ns.reverse := by
  induction h with
  | nil => exact .nil
  | cons n t _ ih => rw [List.reverse_cons, List.reverse_cons]; exact IntsAre.append ih (.cons _ _ .nil)
end
section
noncomputable abbrev tupO (q r : Int) (t1 t2 : Tok) : Obj := { cls := .type "tuple", data := .seq #[.int q t1, .int r t2] }
/-- what a call that hands back a new pair of ints leaves -/
noncomputable def DmR (q r : Int) (news : Led) (rv : Value) (news' : Led) : Prop :=
  ∃ D t1 t2 tl p47 p54, rv = .ref D ∧ news' = (47, tabObj p47) :: (54, tabObj p54) :: (D, tupO q r t1 t2) :: (tl ++ news) ∧ Tab 33 4 (Str.ofString "_int2digits.<locals>.inner") (tl ++ news) p47 ∧ Tab 48 4 (Str.ofString "_digits2int.<locals>.inner") (tl ++ news) p54 ∧
    (@LT.lt Nat _ 54 D ∧ AllLt D news) ∧ ∀ x ∈ tl, @LT.lt Nat _ 54 x.1 ∧ AllLt x.1 news
theorem allLt_sub {d e : Nat} {l l' : Led} (h : AllLt d l) (hs : ∀ p ∈ l', p ∈ l) (hd : d ≤ e) : AllLt e l' := allLt_of' fun p hp => Nat.lt_of_lt_of_le (allLt_mem h p (hs p hp)) hd
theorem perm54 {t n : Led} {a b c o : Addr × Obj} : ∀ p ∈ o :: c :: a :: b :: (t ++ n), p ∈ c :: a :: b :: (t ++ o :: n) := by
  intro p hp
  simp only [List.mem_cons, List.mem_append] at hp ⊢
  rcases hp with h | h | h | h | h | h <;> simp [h]
theorem dm_fin {h₀ h : Heap} {L D9 l' l8 : Addr} {q r : Int} {t1 t2 : Tok} {ol ol8 : Obj} {p8 p' p54 : Array Value} {tl' tl8 news : Led}
    (N : News h₀ L h ((D9, tupO q r t1 t2) :: (54, tabObj p') :: (tl' ++ (l', ol) :: (47, tabObj p8) :: (l8, ol8) :: (tl8 ++ news))))
    (hT8 : Tab 33 4 (Str.ofString "_int2digits.<locals>.inner") (tl8 ++ (54, tabObj p54) :: news) p8) (hq8 : ∀ q ∈ tl8, l8 < q.1) (hA8 : AllLt l8 ((54, tabObj p54) :: news)) (hbig : ∀ p ∈ news, @LT.lt Nat _ 54 p.1)
    (hT' : Tab 48 4 (Str.ofString "_digits2int.<locals>.inner") (tl' ++ (l', ol) :: (47, tabObj p8) :: (l8, ol8) :: (tl8 ++ news)) p') (hq' : ∀ q ∈ tl', @LT.lt Nat _ 54 q.1) (hA' : ∀ q ∈ tl', AllLt q.1 ((l', ol) :: (47, tabObj p8) :: (l8, ol8) :: (tl8 ++ news)))
    (hl' : AllLt l' (tl8 ++ (54, tabObj p54) :: news)) (hc54 : ∀ c oc, (c, oc) = (54, tabObj p54) → ∀ vs, oc.data = .fields vs → ∀ q t, vs[1]? ≠ some (.str q t))
    (h9' : AllLt D9 (tl' ++ (l', ol) :: (47, tabObj p8) :: (l8, ol8) :: (tl8 ++ news))) :
    ∃ news', DmR q r news (.ref D9) news' ∧ News h₀ L h news' := by
  have h9 : @LT.lt Nat _ l' D9 := allLt_mem h9' (l', ol) (List.mem_append_right _ (List.Mem.head _))
  have h54 : @LT.lt Nat _ 54 l' := allLt_mem hl' (54, tabObj p54) (List.mem_append_right _ (List.Mem.head _))
  have hln : AllLt l' news := allLt_sub hl' (fun p hp => List.mem_append_right _ (List.Mem.tail _ hp)) (Nat.le_refl _)
  have h8n : AllLt l8 news := hA8.2
  have h548 : @LT.lt Nat _ 54 l8 := hA8.1
  refine ⟨_, ⟨D9, t1, t2, tl' ++ (l', ol) :: (l8, ol8) :: tl8, p8, p', rfl, rfl, ?_, ?_, ⟨Nat.lt_trans h54 h9, allLt_sub hln (fun _ h => h) (Nat.le_of_lt h9)⟩, ?_⟩, fun p hp => N p ?_⟩
  · rcases hT8 with h | ⟨c, oc, vs, t, e1, e2, e3, e4⟩
    · exact .inl h
    · refine .inr ⟨c, oc, vs, t, e1, ?_, e3, e4⟩
      simp only [List.mem_append, List.mem_cons] at e2 ⊢
      rcases e2 with h | h | h
      · simp [h]
      · exact absurd e4 (hc54 c oc h vs e3 _ _)
      · simp [h]
  · rcases hT' with h | ⟨c, oc, vs, t, e1, e2, e3, e4⟩
    · exact .inl h
    · refine .inr ⟨c, oc, vs, t, e1, ?_, e3, e4⟩
      simp only [List.mem_append, List.mem_cons] at e2 ⊢
      rcases e2 with h | h | h | h | h | h
      · simp [h]
      · simp [h]
      · exfalso
        obtain ⟨rfl, rfl⟩ := Prod.mk.inj h
        rcases hT8 with h | ⟨c, oc, vs', t, e5, e6, e7, e8⟩
        · subst h; cases e3; simp at e4
        · subst e5; cases e3; simp [rawInt] at e4
      · simp [h]
      · simp [h]
      · simp [h]
  · intro x hx
    simp only [List.mem_append, List.mem_cons] at hx
    rcases hx with h | h | h | h
    · exact ⟨hq' x h, allLt_sub (hA' x h) (fun p hp => by simp [hp]) (Nat.le_refl _)⟩
    · subst h; exact ⟨h54, hln⟩
    · subst h; exact ⟨h548, h8n⟩
    · have := hq8 x h
      exact ⟨Nat.lt_trans h548 this, allLt_sub h8n (fun _ h => h) (Nat.le_of_lt this)⟩
  · simp only [List.mem_append, List.mem_cons] at hp ⊢
    rcases hp with h | h | h | (h | h | h | h) | h <;> simp [h]
theorem tab_noStr {line col : Int} {qual : Str} {news : Led} {p : Array Value} (h : Tab line col qual news p) (c : Addr) (oc : Obj) (e : (c, oc) = (54, tabObj p)) (vs : Array Value) (hv : oc.data = .fields vs) (q : Str) (t : Tok) : vs[1]? ≠ some (.str q t) := by
  obtain ⟨_, rfl⟩ := Prod.mk.inj e
  rcases h with rfl | ⟨c, oc, vs', t, rfl, _⟩
  · cases hv; simp
  · cases hv; simp [rawInt]
theorem off54 {t n : Led} {a b : Addr × Obj} {p54 : Array Value} (h1 : a.1 = 47) (h2 : AllLt b.1 ((54, tabObj p54) :: n)) (h3 : ∀ q ∈ t, b.1 < q.1) (h4 : ∀ p ∈ n, @LT.lt Nat _ 54 p.1) : ∀ p ∈ a :: b :: (t ++ n), p.1 ≠ 54 := by
  intro p hp e
  simp only [List.mem_cons, List.mem_append] at hp
  have hb : @LT.lt Nat _ 54 b.1 := h2.1
  rcases hp with h | h | h | h
  · rw [h, h1] at e; exact absurd e (by decide)
  · rw [h] at e; rw [e] at hb; exact absurd hb (by decide)
  · have := Nat.lt_trans hb (h3 p h); rw [e] at this; exact absurd this (by decide)
  · have := h4 p h; rw [e] at this; exact absurd this (by decide)
theorem tab_put {line col : Int} {qual : Str} {t n : Led} {a b : Addr × Obj} {p : Array Value} (h : Tab line col qual n p) : Tab line col qual (a :: b :: (t ++ n)) p :=
  h.mono fun _ hp => List.Mem.tail _ (List.Mem.tail _ (List.mem_append_right _ hp))
theorem lt54 {l : Nat} {t n : Led} {p54 : Array Value} (h : AllLt l (t ++ (54, tabObj p54) :: n)) : @LT.lt Nat _ 54 l := allLt_mem h (54, tabObj p54) (List.mem_append_right _ (List.Mem.head _))
end
section
theorem divmod_pos_c (w : World) (mean : ExcName → Option Value) (mg mb : Str → Option Value) (a : Int) (ta : Tok) (b : Int) (tb : Tok) (news : Led) (p47 p54 : Array Value) (hT47 : Tab 33 4 (Str.ofString "_int2digits.<locals>.inner") news p47) (hT54 : Tab 48 4 (Str.ofString "_digits2int.<locals>.inner") news p54) (hbig : ∀ p ∈ news, @LT.lt Nat _ 54 p.1)
    (ds : List Int) (res : List Int × Int) (hs2 : dvSim b ((Builtin.Int.intBits b : Nat) : Int) ds.reverse 0 [] = some res) (hds : ds.length ≤ 40) (hn30 : Builtin.Int.intBits b ≤ 30) (q : Int) (hs3 : d2i res.1.reverse ((Builtin.Int.intBits b : Nat) : Int) = some q) (hs1 : i2d a ((Builtin.Int.intBits b : Nat) : Int) = some ds) :
    Con Challenge.rw_pe0223_01.row.prog w (hd.heap_39 w.params) mean mg mb 66 [.int a ta, .int b tb] ((47, tabObj p47) :: (54, tabObj p54) :: news) 40 600 (DmR q res.2 news) := by
  w_top off
  k_with_none
  k_fill
  intro dp un gd cn cs a' ccd cl outer A₀ base h₀ L m s Q E hC1 hC2 hC3 B F X N T hk hd hu hret
  have hT47' := hT47.mono (news' := (54, tabObj p54) :: news) fun _ h => List.Mem.tail _ h
  have hb47 : ∀ p ∈ (54, tabObj p54) :: news, p.1 ≠ 47 := by
    intro p hp
    rcases List.mem_cons.mp hp with rfl | hp
    · show (54 : Nat) ≠ 47; decide
    · have := hbig p hp; exact fun e => by rw [e] at this; revert this; decide
  refine wpAny_call ?_
  ((k_dflt cell_enter))
  k_with "call ref" => ((k_dflt (refine Mine.con_use2 (by assumption) (by exact fun _ h => h) (by k_asm) (by k_asm) (by exact Mine.int2digits_c _ _ _ _ _ _ _ _ _ _ (by assumption) (by assumption) _ (by assumption)) (by k_asm) (by k_asm) (by k_asm) (by k_asm) (by k_asm) (by rfl) (by ktr_room) (by ktr_units) ?_); rintro zr8 zn8 zh8 ztk8 ⟨zl8, zvs8, zcnt8, ztl8, zp8, ze1, zhI8, ze2, zhT8, zhP8, zhq8, zhA8⟩ zF8 zN8; subst ze1; subst ze2; (try dsimp only); (try k_fold)))
  k_steps
  have hI := ‹IntsAre _ ds›
  have hlen := hI.length
  k_dflt (refine' iter_revUnr (by rfl) (by assumption) (by assumption) ?hof ?hm ?hc ?hd ?_)
  case hm => exact List.Mem.tail _ (List.Mem.tail _ (List.Mem.head _))
  case hc => rfl
  case hd => rfl
  case hof => exact offI_of (by first | k_all | fail "off")
  refine rev_dv (qv := []) (qs := []) b ((Builtin.Int.intBits b : Nat) : Int) res 0 _ ⟨ds.reverse, ints_rev hI, .nil, hs2, ?_⟩ ?_ rfl (List.Mem.tail _ (List.Mem.head _)) ?_ ?_
  · simp only [List.length_reverse, List.length_nil]; omega
  · first | k_all | fail "off"
  · intro v5 r5 rr5 tr5 qv5 qs5 cnt5 u5 it5 h5 tk5 hp5 hic5 F5 N5
    obtain ⟨d5, td5, rfl, w1, w2, w3, w4, w5, w5b, w6, w7, w8, w9⟩ := hp5.next
    k_with "call ref" => ((k_dflt (refine Mine.con_use2 (by assumption) (by exact fun _ h => h) (by k_asm) (by k_asm) (by exact Mine.div2n1n_c _ _ _ _ _ _ _ _ _ _ _ (by assumption) (by assumption) (by assumption)) (by k_asm) (by k_asm) (by k_asm) (by k_asm) (by k_asm) (by rfl) (by ktr_room) (by ktr_units) ?_); rintro zr8 zn8 zh8 ztk8 ⟨zD8, zt8, zu8, ze1, ze2, zhA8⟩ zF8 zN8; subst ze1; subst ze2; (try simp only [AllLt, and_true] at zhA8); (try dsimp only); (try k_fold)))
    k_steps
    (rename News _ _ _ _ => nE)
    (try simp only [List.push_toArray] at nE)
    refine f_end (c' := ⟨_, _, _, _, _⟩) (by assumption) nE (by kst_all) ?_ (List.Mem.tail _ (List.Mem.head _)) (fun _ h => List.Mem.tail _ (List.Mem.tail _ h)) ?_ (fun p hp => ?_) (w9 _ _ _)
    · ((intro zz zh1 zh2 zh3; (try simp only [List.forall_mem_cons, List.not_mem_nil, false_implies, implies_true, and_true, ne_eq] at zh2); (try simp only [List.contains_cons, List.contains_nil, Bool.or_false, Bool.or_eq_false_iff, beq_eq_false_iff_ne, ne_eq] at zh3); first | rfl | (simp only [kstB, zh1, zh2, zh3, if_false, List.contains_cons, List.contains_nil, Bool.or_false, Bool.or_eq_true, beq_iff_eq, or_false, false_or, or_self, Bool.false_eq_true, ↓reduceIte]; done) | (simp [kstB, zh1, zh2, zh3]; done)))
    · first | k_all | fail "off"
    · rw [List.mem_singleton.mp hp]; exact List.Mem.tail _ (List.Mem.tail _ (List.Mem.head _))
  · intro qv5 tr5 cnt5 u5 h5 tk5 hI5 hl5 F5 N5
    k_with "call builtin:list.reverse" => (((with_reducible show wpAny _ _ (call (Value.builtin _) _) _ _ _); k_dflt (refine kl_reverse (by k_asm) (by k_asm) (by rfl) (by k_upd) (by (simp only [List.size_toArray, sizeLine]; omega)) ?_); intro zh' zF' zN'; (try dsimp only at zN')))
    k_with "call ref" => ((k_dflt (refine Mine.con_use2 (by assumption) (by exact Mine.perm54) (by k_asm) (by k_asm) (by exact Mine.digits2int_c _ _ _ _ _ _ _ _ (Mine.ints_rev (by assumption)) _ _ _ _ (Mine.tab_put (by assumption)) (Mine.off54 rfl (by assumption) (by assumption) (by assumption)) (Mine.lt54 (by tbn_find)) _ (by assumption)) (by k_asm) (by k_asm) (by k_asm) (by k_asm) (by k_asm) (by rfl) (by ktr_room) (by ktr_units) ?_); rintro zr8 zn8 zh8 ztk8 ⟨zt8, ztl8, zp8, ze1, ze2, zhT8, zhq8, zhA8⟩ zF8 zN8; subst ze1; subst ze2; (try dsimp only); (try k_fold)))
    k_steps
    obtain ⟨nw, hR, hN⟩ := dm_fin (by assumption) (by assumption) (by assumption) (by assumption) hbig (by assumption) (by assumption) (by assumption) (by tbn_find) (tab_noStr hT54) (by tbn_find)
    exact hret _ _ _ _ hR (by k_asm) hN
end
section
/-- int_divmod of a >= 0 by b >= 1, by its steps -/
noncomputable def dmS (a b : Int) : Option (Int × Int) :=
  match i2d a ((Builtin.Int.intBits b : Nat) : Int) with
  | none => none
  | some ds => if ds.length ≤ 40 ∧ Builtin.Int.intBits b ≤ 30 ∧ 0 ≤ a ∧ 1 ≤ b then
      (match dvSim b ((Builtin.Int.intBits b : Nat) : Int) ds.reverse 0 [] with
      | none => none
      | some res => (match d2i res.1.reverse ((Builtin.Int.intBits b : Nat) : Int) with
        | none => none
        | some q => some (q, res.2)))
    else none
theorem dmS_spec {a b q r : Int} (h : dmS a b = some (q, r)) : ∃ ds res, i2d a ((Builtin.Int.intBits b : Nat) : Int) = some ds ∧ ds.length ≤ 40 ∧ Builtin.Int.intBits b ≤ 30 ∧ 0 ≤ a ∧ 1 ≤ b ∧ dvSim b ((Builtin.Int.intBits b : Nat) : Int) ds.reverse 0 [] = some res ∧ d2i res.1.reverse ((Builtin.Int.intBits b : Nat) : Int) = some q ∧ r = res.2 := by
  unfold dmS at h
  split at h
  · cases h
  · rename_i ds e1
    split at h
    · rename_i hc
      split at h
      · cases h
      · rename_i res e2
        split at h
        · cases h
        · rename_i q' e3
          obtain ⟨rfl, rfl⟩ := Prod.mk.inj (Option.some.inj h)
          exact ⟨ds, res, e1, hc.1, hc.2.1, hc.2.2.1, hc.2.2.2, e2, e3, rfl⟩
    · cases h
theorem int_divmod_c (w : World) (mean : ExcName → Option Value) (mg mb : Str → Option Value) (a : Int) (ta : Tok) (b : Int) (tb : Tok) (news : Led) (p47 p54 : Array Value) (hT47 : Tab 33 4 (Str.ofString "_int2digits.<locals>.inner") news p47) (hT54 : Tab 48 4 (Str.ofString "_digits2int.<locals>.inner") news p54) (hbig : ∀ p ∈ news, @LT.lt Nat _ 54 p.1)
    (q r : Int) (hs : dmS a b = some (q, r)) :
    Con Challenge.rw_pe0223_01.row.prog w (hd.heap_39 w.params) mean mg mb 73 [.int a ta, .int b tb] ((47, tabObj p47) :: (54, tabObj p54) :: news) 60 900 (DmR q r news) := by
  w_top off
  k_with_none
  k_fill
  intro dp un gd cn cs a' ccd cl outer A₀ base h₀ L m s Q E hC1 hC2 hC3 B F X N T hk hd hu hret
  obtain ⟨ds, res, e1, e2, e3, e4, e5, e6, e7, rfl⟩ := dmS_spec hs
  refine wpAny_call ?_
  ((k_dflt cell_enter))
  k_with "call ref" => ((k_dflt (refine Mine.con_use2 (by assumption) (by exact fun _ h => h) (by k_asm) (by k_asm) (by exact Mine.divmod_pos_c _ _ _ _ _ _ _ _ _ _ _ (by assumption) (by assumption) (by assumption) _ _ (by assumption) (by assumption) (by assumption) _ (by assumption) (by assumption)) (by k_asm) (by k_asm) (by k_asm) (by k_asm) (by k_asm) (by rfl) (by ktr_room) (by ktr_units) ?_); intro zr8 zn8 zh8 ztk8 zhR8 zF8 zN8; (try dsimp only); (try k_fold)))
  k_steps
  all_goals first
    | (exfalso; omega)
    | exact hret _ _ _ _ (by assumption) (by k_asm) (by k_asm)
end
section
noncomputable def bsR (ns : List Int) (x : Int) : Nat → Int → Int → Int
  | 0, lo, _ => lo
  | n + 1, lo, hi => if lo < hi then (if x < ns.getD ((lo + hi).fdiv 2).toNat 0 then bsR ns x n lo ((lo + hi).fdiv 2) else bsR ns x n ((lo + hi).fdiv 2 + 1) hi) else lo
noncomputable def BsP (ns : List Int) (x : Int) (R lo hi : Int) : Prop := 0 ≤ lo ∧ lo ≤ hi ∧ hi ≤ (ns.length : Int) ∧ ∃ n : Nat, hi - lo ≤ n ∧ bsR ns x n lo hi = R
theorem BsP.mid {lo hi : Int} (h0 : 0 ≤ lo) (h : lo < hi) : lo ≤ (lo + hi).fdiv 2 ∧ (lo + hi).fdiv 2 < hi := by
  have e : (lo + hi).fdiv 2 = (lo + hi) / 2 := by rw [Int.fdiv_eq_ediv_of_nonneg _ (by omega)]
  rw [e]; omega
theorem BsP.low {ns : List Int} {x R lo hi : Int} (p : BsP ns x R lo hi) (h : lo < hi) (hx : x < ns.getD ((lo + hi).fdiv 2).toNat 0) : BsP ns x R lo ((lo + hi).fdiv 2) := by
  obtain ⟨h0, h1, h2, n, h3, h4⟩ := p
  have hm := BsP.mid h0 h
  cases n with
  | zero => omega
  | succ n =>
    rw [bsR, if_pos h, if_pos hx] at h4
    exact ⟨h0, by omega, by omega, n, by omega, h4⟩
theorem BsP.high {ns : List Int} {x R lo hi : Int} (p : BsP ns x R lo hi) (h : lo < hi) (hx : ¬ x < ns.getD ((lo + hi).fdiv 2).toNat 0) : BsP ns x R ((lo + hi).fdiv 2 + 1) hi := by
  obtain ⟨h0, h1, h2, n, h3, h4⟩ := p
  have hm := BsP.mid h0 h
  cases n with
  | zero => omega
  | succ n =>
    rw [bsR, if_pos h, if_neg hx] at h4
    exact ⟨by omega, by omega, h2, n, by omega, h4⟩
theorem BsP.stop {ns : List Int} {x R lo hi : Int} (p : BsP ns x R lo hi) (h : ¬ lo < hi) : lo = R := by
  obtain ⟨h0, h1, h2, n, h3, h4⟩ := p
  cases n with
  | zero => exact h4
  | succ n => rw [bsR, if_neg h] at h4; exact h4
theorem BsP.start (ns : List Int) (x : Int) : BsP ns x (bsR ns x ns.length 0 ns.length) 0 ns.length := ⟨by omega, by omega, by omega, ns.length, by omega, rfl⟩
theorem bisect_right_c (w : World) (mean : ExcName → Option Value) (mg mb : Str → Option Value) (l : Addr) (vs : List Value) (ns : List Int) (nn : Nat) (x : Int) (tx : Tok) (news : Led) (hi : IntsAre vs ns) (hlen : ns.length ≤ 1000) :
    Con Challenge.rw_pe0223_01.row.prog w (hd.heap_39 w.params) mean mg mb 91 [.ref l, .int x tx] ((l, listOf vs.toArray nn) :: news) 2 16 (fun r news' => ∃ t, r = .int (bsR ns x ns.length 0 ns.length) t ∧ news' = ((l, listOf vs.toArray nn) :: news)) := by
  w_top off
  k_with_none
  k_fill
  intro dp un gd cn cs a ccd cl outer A₀ base h₀ L m s Q E hC1 hC2 hC3 B F X N T hk hd hu hret
  refine wpAny_call ?_
  ((k_dflt (refine code_def (by k_asm) (by k_asm) (by k_asm) (by k_asm) (by k_asm) (by exact rfl) (by exact rfl) (by assumption) (by k_is) (by k_is) (by ktr_room) (by (refine kp_binds (by k_in) (by exact fun _ => rfl))) (by exact locs rfl) ?_ (by exact rfl) (by exact rfl) (by exact rfl) (by decide); k_whole; intro zg' zL' zh' zFG' zF' zN' zB' zX' zT'; (try dsimp only); (try k_lift zB'); (try k_fold))))
  k_with "exec While Compare cons nil" => ((rename Fr _ _ _ _ => lF); (rename News _ _ _ _ => lN); with_unfolding_all refine' w_while (σ := Int × Tok × Int × Tok) (fun _ => (l, listOf vs.toArray nn) :: news) (fun c => [(Str.ofString "lo", Value.int c.1 c.2.1), (Str.ofString "hi", Value.int c.2.2.1 c.2.2.2)]) [Str.ofString "mid"] (fun c => BsP ns x (bsR ns x ns.length 0 ns.length) c.1 c.2.2.1) (fun c => (c.2.2.1 - c.1).toNat) ⟨_, _, _, _⟩ lF lN ?kk ?kn ?kp ?_; (case kk => kst_all); (case kn => exact fun _ h => h); (case kp => exact BsP.start _ _); clear lF lN; rintro ⟨c1, t1, c2, t2⟩ u9 h9 tk9 hP F9 N9; dsimp only at hP; obtain ⟨hP1, hP2, hP3, hP4⟩ := id hP; (try dsimp only); (try k_fold))
  k_steps
  all_goals first
    | exact hret _ _ _ _ ⟨_, congrArg (fun z => Value.int z _) (BsP.stop (by assumption) (by assumption)), rfl⟩ (by k_asm) (by k_asm)
    | (refine w_end (c' := ⟨_, _, _, _⟩) (by assumption) (by assumption) (by kst_all) (by ((intro zz zh2 zh3; (try simp only [List.forall_mem_cons, List.not_mem_nil, false_implies, implies_true, and_true, ne_eq] at zh2); (try simp only [List.contains_cons, List.contains_nil, Bool.or_false, Bool.or_eq_false_iff, beq_eq_false_iff_ne, ne_eq] at zh3); first | rfl | (simp only [kstB, zh2, zh3, if_false, List.contains_cons, List.contains_nil, Bool.or_false, Bool.or_eq_true, beq_iff_eq, or_false, false_or, or_self, Bool.false_eq_true, ↓reduceIte]; done) | (simp [kstB, zh2, zh3]; done)))) (fun _ h => h) ?_ ?_
       · dsimp only; first | exact BsP.low (by assumption) (by assumption) (by assumption) | exact BsP.high (by assumption) (by assumption) (by assumption)
       · have := BsP.mid hP1 (by assumption); dsimp only; omega)
end
section
noncomputable def bsL (ns : List Int) (x : Int) : Nat → Int → Int → Int
  | 0, lo, _ => lo
  | n + 1, lo, hi => if lo < hi then (if ns.getD ((lo + hi).fdiv 2).toNat 0 < x then bsL ns x n ((lo + hi).fdiv 2 + 1) hi else bsL ns x n lo ((lo + hi).fdiv 2)) else lo
noncomputable def BlP (ns : List Int) (x : Int) (R lo hi : Int) : Prop := 0 ≤ lo ∧ lo ≤ hi ∧ hi ≤ (ns.length : Int) ∧ ∃ n : Nat, hi - lo ≤ n ∧ bsL ns x n lo hi = R
theorem BlP.mid {lo hi : Int} (h0 : 0 ≤ lo) (h : lo < hi) : lo ≤ (lo + hi).fdiv 2 ∧ (lo + hi).fdiv 2 < hi := by
  have e : (lo + hi).fdiv 2 = (lo + hi) / 2 := by rw [Int.fdiv_eq_ediv_of_nonneg _ (by omega)]
  rw [e]; omega
theorem BlP.low {ns : List Int} {x R lo hi : Int} (p : BlP ns x R lo hi) (h : lo < hi) (hx : ¬ ns.getD ((lo + hi).fdiv 2).toNat 0 < x) : BlP ns x R lo ((lo + hi).fdiv 2) := by
  obtain ⟨h0, h1, h2, n, h3, h4⟩ := p
  have hm := BlP.mid h0 h
  cases n with
  | zero => omega
  | succ n =>
    rw [bsL, if_pos h, if_neg hx] at h4
    exact ⟨h0, by omega, by omega, n, by omega, h4⟩
theorem BlP.high {ns : List Int} {x R lo hi : Int} (p : BlP ns x R lo hi) (h : lo < hi) (hy : ns.getD ((lo + hi).fdiv 2).toNat 0 < x) : BlP ns x R ((lo + hi).fdiv 2 + 1) hi := by
  obtain ⟨h0, h1, h2, n, h3, h4⟩ := p
  have hm := BlP.mid h0 h
  cases n with
  | zero => omega
  | succ n =>
    rw [bsL, if_pos h, if_pos hy] at h4
    exact ⟨by omega, by omega, h2, n, by omega, h4⟩
theorem BlP.stop {ns : List Int} {x R lo hi : Int} (p : BlP ns x R lo hi) (h : ¬ lo < hi) : lo = R := by
  obtain ⟨h0, h1, h2, n, h3, h4⟩ := p
  cases n with
  | zero => exact h4
  | succ n => rw [bsL, if_neg h] at h4; exact h4
theorem BlP.start (ns : List Int) (x : Int) : BlP ns x (bsL ns x ns.length 0 ns.length) 0 ns.length := ⟨by omega, by omega, by omega, ns.length, by omega, rfl⟩
theorem bisect_left_c (w : World) (mean : ExcName → Option Value) (mg mb : Str → Option Value) (l : Addr) (vs : List Value) (ns : List Int) (nn : Nat) (x : Int) (tx t0 : Tok) (news : Led) (hi : IntsAre vs ns) (hlen : ns.length ≤ 1000) :
    Con Challenge.rw_pe0223_01.row.prog w (hd.heap_39 w.params) mean mg mb 109 [.ref l, .int x tx, .int 0 t0, .none] ((l, listOf vs.toArray nn) :: news) 2 16 (fun r news' => ∃ t, r = .int (bsL ns x ns.length 0 ns.length) t ∧ news' = ((l, listOf vs.toArray nn) :: news)) := by
  w_top off
  k_with_none
  k_fill
  intro dp un gd cn cs a ccd cl outer A₀ base h₀ L m s Q E hC1 hC2 hC3 B F X N T hk hd hu hret
  refine wpAny_call ?_
  ((k_dflt (refine code_def (by k_asm) (by k_asm) (by k_asm) (by k_asm) (by k_asm) (by exact rfl) (by exact rfl) (by assumption) (by k_is) (by k_is) (by ktr_room) (by (refine kp_binds (by k_in) (by exact fun _ => rfl))) (by exact locs rfl) ?_ (by exact rfl) (by exact rfl) (by exact rfl) (by decide); k_whole; intro zg' zL' zh' zFG' zF' zN' zB' zX' zT'; (try dsimp only); (try k_lift zB'); (try k_fold))))
  k_with "exec While Compare cons nil" => ((rename Fr _ _ _ _ => lF); (rename News _ _ _ _ => lN); with_unfolding_all refine' w_while (σ := Int × Tok × Int × Tok) (fun _ => (l, listOf vs.toArray nn) :: news) (fun c => [(Str.ofString "lo", Value.int c.1 c.2.1), (Str.ofString "hi", Value.int c.2.2.1 c.2.2.2)]) [Str.ofString "mid"] (fun c => BlP ns x (bsL ns x ns.length 0 ns.length) c.1 c.2.2.1) (fun c => (c.2.2.1 - c.1).toNat) ⟨_, _, _, _⟩ lF lN ?kk ?kn ?kp ?_; (case kk => kst_all); (case kn => exact fun _ h => h); (case kp => exact BlP.start _ _); clear lF lN; rintro ⟨c1, t1, c2, t2⟩ u9 h9 tk9 hP F9 N9; dsimp only at hP; obtain ⟨hP1, hP2, hP3, hP4⟩ := id hP; (try dsimp only); (try k_fold))
  k_steps
  all_goals first
    | exact hret _ _ _ _ ⟨_, congrArg (fun z => Value.int z _) (BlP.stop (by assumption) (by assumption)), rfl⟩ (by k_asm) (by k_asm)
    | (refine w_end (c' := ⟨_, _, _, _⟩) (by assumption) (by assumption) (by kst_all) (by ((intro zz zh2 zh3; (try simp only [List.forall_mem_cons, List.not_mem_nil, false_implies, implies_true, and_true, ne_eq] at zh2); (try simp only [List.contains_cons, List.contains_nil, Bool.or_false, Bool.or_eq_false_iff, beq_eq_false_iff_ne, ne_eq] at zh3); first | rfl | (simp only [kstB, zh2, zh3, if_false, List.contains_cons, List.contains_nil, Bool.or_false, Bool.or_eq_true, beq_iff_eq, or_false, false_or, or_self, Bool.false_eq_true, ↓reduceIte]; done) | (simp [kstB, zh2, zh3]; done)))) (fun _ h => h) ?_ ?_
       · dsimp only; first | exact BlP.low (by assumption) (by assumption) (by assumption) | exact BlP.high (by assumption) (by assumption) (by assumption)
       · have := BlP.mid hP1 (by assumption); dsimp only; omega)
end
section
theorem ints_take {vs : List Value} {ns : List Int} (h : IntsAre vs ns) : ∀ i : Nat, IntsAre (vs.take i) (ns.take i) := by
  induction h with
  | nil => intro i; simp; exact .nil
  | cons n t _ ih => intro i; cases i with
    | zero => exact .nil
    | succ i => exact .cons _ _ (ih i)
theorem ints_drop {vs : List Value} {ns : List Int} (h : IntsAre vs ns) : ∀ i : Nat, IntsAre (vs.drop i) (ns.drop i) := by
  induction h with
  | nil => intro i; simp; exact .nil
  | cons n t h ih => intro i; cases i with
    | zero => exact .cons _ _ h
    | succ i => exact ih i
noncomputable def insAt (ns : List Int) (i : Nat) (x : Int) : List Int := ns.take i ++ x :: ns.drop i
noncomputable def insVt (vs : List Value) (i : Nat) (x : Value) : List Value := vs.take i ++ x :: vs.drop i
theorem ints_insAt {vs : List Value} {ns : List Int} (h : IntsAre vs ns) (i : Nat) (x : Int) (t : Tok) : IntsAre (insVt vs i (.int x t)) (insAt ns i x) := IntsAre.append (ints_take h i) (.cons _ _ (ints_drop h i))
theorem bsL_range (ns : List Int) (x : Int) : ∀ (n : Nat) (lo hi : Int), 0 ≤ lo → lo ≤ hi → 0 ≤ bsL ns x n lo hi ∧ bsL ns x n lo hi ≤ hi
  | 0, lo, hi, h0, h1 => ⟨h0, h1⟩
  | n + 1, lo, hi, h0, h1 => by
    rw [bsL]
    split
    · rename_i h
      have hm := BlP.mid h0 h
      split
      · exact bsL_range ns x n _ _ (by omega) (by omega)
      · have := bsL_range ns x n lo _ h0 (by omega : lo ≤ (lo + hi).fdiv 2); omega
    · exact ⟨h0, h1⟩
theorem bsR_range (ns : List Int) (x : Int) : ∀ (n : Nat) (lo hi : Int), 0 ≤ lo → lo ≤ hi → 0 ≤ bsR ns x n lo hi ∧ bsR ns x n lo hi ≤ hi
  | 0, lo, hi, h0, h1 => ⟨h0, h1⟩
  | n + 1, lo, hi, h0, h1 => by
    rw [bsR]
    split
    · rename_i h
      have hm := BsP.mid h0 h
      split
      · have := bsR_range ns x n lo _ h0 (by omega : lo ≤ (lo + hi).fdiv 2); omega
      · exact bsR_range ns x n _ _ (by omega) (by omega)
    · exact ⟨h0, h1⟩
theorem insert_K {prog : Program} {w : World} {A : Around} {E : Value → Shared → Prop} {s : Shared} {h₀ : Heap} {L D : Addr} {m : Str → Option Value} {news : Led} {vs : List Value} {ns : List Int} {n : Nat} {i : Int} {u : Tok} {y : Value} {Q : Value → Shared → Prop} (F : Fr h₀ L s.heap m) (N : News h₀ L s.heap ((D, listOf vs.toArray n) :: news)) (off : ∀ p ∈ news, p.1 ≠ D) (hi : IntsAre vs ns) (h : 0 ≤ i ∧ i ≤ (ns.length : Int)) (hl : ns.length ≤ 1000)
    (hq : ∀ h', Fr h₀ L h' m → News h₀ L h' ((D, listOf (insVt vs i.toNat y).toArray (n + 1)) :: news) → Q .none { s with heap := h' }) :
    wpAny (model prog w) A (call (.builtin "list.insert") [.ref D, .int i u, y]) Q E s := by
  have hlen := hi.length
  refine kl_insert (its := vs.toArray) F N (by simp only [Builtin.List.listFitsIndex, Bool.and_eq_true, decide_eq_true_eq]; omega) (l := insVt vs i.toNat y) ?_ (Upd.head off) (by show vs.length ≤ sizeLine; rw [sizeLine_eq]; omega) hq
  show kl_ins vs i y = insVt vs i.toNat y
  unfold kl_ins insVt
  rw [if_neg (by omega)]
  have e : min i.toNat vs.length = i.toNat := by omega
  rw [e]
theorem insort_left_c (w : World) (mean : ExcName → Option Value) (mg mb : Str → Option Value) (l : Addr) (vs : List Value) (ns : List Int) (nn : Nat) (x : Int) (tx : Tok) (news : Led) (hi : IntsAre vs ns) (hlen : ns.length ≤ 1000) (hoff : ∀ p ∈ news, p.1 ≠ l) :
    Con Challenge.rw_pe0223_01.row.prog w (hd.heap_39 w.params) mean mg mb 100 [.ref l, .int x tx] ((l, listOf vs.toArray nn) :: news) 10 100 (fun r news' => ∃ vs' nn', r = .none ∧ IntsAre vs' (insAt ns (bsL ns x ns.length 0 ns.length).toNat x) ∧ news' = ((l, listOf vs'.toArray nn') :: news)) := by
  w_top off
  k_with_none
  k_fill
  intro dp un gd cn cs a ccd cl outer A₀ base h₀ L m s Q E hC1 hC2 hC3 B F X N T hk hd hu hret
  refine wpAny_call ?_
  ((k_dflt (refine code_def (by k_asm) (by k_asm) (by k_asm) (by k_asm) (by k_asm) (by exact rfl) (by exact rfl) (by assumption) (by k_is) (by k_is) (by ktr_room) (by (refine kp_binds (by k_in) (by exact fun _ => rfl))) (by exact locs rfl) ?_ (by exact rfl) (by exact rfl) (by exact rfl) (by decide); k_whole; intro zg' zL' zh' zFG' zF' zN' zB' zX' zT'; (try dsimp only); (try k_lift zB'); (try k_fold))))
  have hrg := bsL_range ns x ns.length 0 ns.length (Int.le_refl _) (by omega)
  k_with "call ref" => ((k_dflt (refine Mine.con_use2 (by assumption) (by exact fun _ h => h) (by k_asm) (by k_asm) (by exact Mine.bisect_left_c _ _ _ _ _ _ _ _ _ _ _ _ (by assumption) (by assumption)) (by k_asm) (by k_asm) (by k_asm) (by k_asm) (by k_asm) (by rfl) (by ktr_room) (by ktr_units) ?_); rintro zr8 zn8 zh8 ztk8 ⟨zt8, ze1, ze2⟩ zF8 zN8; subst ze1; subst ze2; (try dsimp only); (try k_fold)))
  k_with "call builtin:list.insert" => ((k_dflt (refine Mine.insert_K (by k_asm) (by k_asm) (by assumption) (by assumption) (by assumption) (by assumption) ?_); intro zh8 zF8 zN8))
  k_steps
  all_goals exact hret _ _ _ _ ⟨_, _, rfl, ints_insAt hi _ _ _, rfl⟩ (by k_asm) (by k_asm)
end
section
theorem bisect_right_c4 (w : World) (mean : ExcName → Option Value) (mg mb : Str → Option Value) (l : Addr) (vs : List Value) (ns : List Int) (nn : Nat) (x : Int) (tx t0 : Tok) (news : Led) (hi : IntsAre vs ns) (hlen : ns.length ≤ 1000) :
    Con Challenge.rw_pe0223_01.row.prog w (hd.heap_39 w.params) mean mg mb 91 [.ref l, .int x tx, .int 0 t0, .none] ((l, listOf vs.toArray nn) :: news) 2 16 (fun r news' => ∃ t, r = .int (bsR ns x ns.length 0 ns.length) t ∧ news' = ((l, listOf vs.toArray nn) :: news)) := by
  w_top off
  k_with_none
  k_fill
  intro dp un gd cn cs a ccd cl outer A₀ base h₀ L m s Q E hC1 hC2 hC3 B F X N T hk hd hu hret
  refine wpAny_call ?_
  ((k_dflt (refine code_def (by k_asm) (by k_asm) (by k_asm) (by k_asm) (by k_asm) (by exact rfl) (by exact rfl) (by assumption) (by k_is) (by k_is) (by ktr_room) (by (refine kp_binds (by k_in) (by exact fun _ => rfl))) (by exact locs rfl) ?_ (by exact rfl) (by exact rfl) (by exact rfl) (by decide); k_whole; intro zg' zL' zh' zFG' zF' zN' zB' zX' zT'; (try dsimp only); (try k_lift zB'); (try k_fold))))
  k_with "exec While Compare cons nil" => ((rename Fr _ _ _ _ => lF); (rename News _ _ _ _ => lN); with_unfolding_all refine' w_while (σ := Int × Tok × Int × Tok) (fun _ => (l, listOf vs.toArray nn) :: news) (fun c => [(Str.ofString "lo", Value.int c.1 c.2.1), (Str.ofString "hi", Value.int c.2.2.1 c.2.2.2)]) [Str.ofString "mid"] (fun c => BsP ns x (bsR ns x ns.length 0 ns.length) c.1 c.2.2.1) (fun c => (c.2.2.1 - c.1).toNat) ⟨_, _, _, _⟩ lF lN ?kk ?kn ?kp ?_; (case kk => kst_all); (case kn => exact fun _ h => h); (case kp => exact BsP.start _ _); clear lF lN; rintro ⟨c1, t1, c2, t2⟩ u9 h9 tk9 hP F9 N9; dsimp only at hP; obtain ⟨hP1, hP2, hP3, hP4⟩ := id hP; (try dsimp only); (try k_fold))
  k_steps
  all_goals first
    | exact hret _ _ _ _ ⟨_, congrArg (fun z => Value.int z _) (BsP.stop (by assumption) (by assumption)), rfl⟩ (by k_asm) (by k_asm)
    | (refine w_end (c' := ⟨_, _, _, _⟩) (by assumption) (by assumption) (by kst_all) (by ((intro zz zh2 zh3; (try simp only [List.forall_mem_cons, List.not_mem_nil, false_implies, implies_true, and_true, ne_eq] at zh2); (try simp only [List.contains_cons, List.contains_nil, Bool.or_false, Bool.or_eq_false_iff, beq_eq_false_iff_ne, ne_eq] at zh3); first | rfl | (simp only [kstB, zh2, zh3, if_false, List.contains_cons, List.contains_nil, Bool.or_false, Bool.or_eq_true, beq_iff_eq, or_false, false_or, or_self, Bool.false_eq_true, ↓reduceIte]; done) | (simp [kstB, zh2, zh3]; done)))) (fun _ h => h) ?_ ?_
       · dsimp only; first | exact BsP.low (by assumption) (by assumption) (by assumption) | exact BsP.high (by assumption) (by assumption) (by assumption)
       · have := BsP.mid hP1 (by assumption); dsimp only; omega)
end
section
theorem insort_right_c (w : World) (mean : ExcName → Option Value) (mg mb : Str → Option Value) (l : Addr) (vs : List Value) (ns : List Int) (nn : Nat) (x : Int) (tx : Tok) (news : Led) (hi : IntsAre vs ns) (hlen : ns.length ≤ 1000) (hoff : ∀ p ∈ news, p.1 ≠ l) :
    Con Challenge.rw_pe0223_01.row.prog w (hd.heap_39 w.params) mean mg mb 82 [.ref l, .int x tx] ((l, listOf vs.toArray nn) :: news) 10 100 (fun r news' => ∃ vs' nn', r = .none ∧ IntsAre vs' (insAt ns (bsR ns x ns.length 0 ns.length).toNat x) ∧ news' = ((l, listOf vs'.toArray nn') :: news)) := by
  w_top off
  k_with_none
  k_fill
  intro dp un gd cn cs a ccd cl outer A₀ base h₀ L m s Q E hC1 hC2 hC3 B F X N T hk hd hu hret
  refine wpAny_call ?_
  ((k_dflt (refine code_def (by k_asm) (by k_asm) (by k_asm) (by k_asm) (by k_asm) (by exact rfl) (by exact rfl) (by assumption) (by k_is) (by k_is) (by ktr_room) (by (refine kp_binds (by k_in) (by exact fun _ => rfl))) (by exact locs rfl) ?_ (by exact rfl) (by exact rfl) (by exact rfl) (by decide); k_whole; intro zg' zL' zh' zFG' zF' zN' zB' zX' zT'; (try dsimp only); (try k_lift zB'); (try k_fold))))
  have hrg := bsR_range ns x ns.length 0 ns.length (Int.le_refl _) (by omega)
  k_with "call ref" => ((k_dflt (refine Mine.con_use2 (by assumption) (by exact fun _ h => h) (by k_asm) (by k_asm) (by exact Mine.bisect_right_c4 _ _ _ _ _ _ _ _ _ _ _ _ (by assumption) (by assumption)) (by k_asm) (by k_asm) (by k_asm) (by k_asm) (by k_asm) (by rfl) (by ktr_room) (by ktr_units) ?_); rintro zr8 zn8 zh8 ztk8 ⟨zt8, ze1, ze2⟩ zF8 zN8; subst ze1; subst ze2; (try dsimp only); (try k_fold)))
  k_with "call builtin:list.insert" => ((k_dflt (refine Mine.insert_K (by k_asm) (by k_asm) (by assumption) (by assumption) (by assumption) (by assumption) ?_); intro zh8 zF8 zN8))
  k_steps
  all_goals exact hret _ _ _ _ ⟨_, _, rfl, ints_insAt hi _ _ _, rfl⟩ (by k_asm) (by k_asm)
end
section
noncomputable def win1 (x y t u v : Int) : Bool := decide (u ≤ x ∧ v ≤ y ∧ (u = x ∨ v = y ∨ (if x - u - y + v < 0 then -(x - u - y + v) else x - u - y + v) < t))
/-- the test of _law_wins -/
noncomputable def winsS (x y t : Int) : List (Int × Int) → Bool
  | [] => false
  | p :: r => if win1 x y t p.1 p.2 then true else if win1 x y t p.2 p.1 then true else winsS x y t r
structure WnP (x y t : Int) (news : Led) (R : Bool) (rest : List Value) (c : Unit) : Prop where
  h : ∃ qs, PairsAre news rest qs ∧ winsS x y t qs = R
theorem WnP.next {x y t : Int} {news : Led} {R : Bool} {v : Value} {rest : List Value} (h : WnP x y t news R (v :: rest) ()) : ∃ a c d t1 t2, v = .ref a ∧ (a, ({ cls := .type "tuple", data := .seq #[.int c t1, .int d t2] } : Obj)) ∈ news ∧
    (win1 x y t c d = true → R = true) ∧ (win1 x y t d c = true → R = true) ∧ (win1 x y t c d = false → win1 x y t d c = false → WnP x y t news R rest ()) := by
  obtain ⟨qs, h1, h2⟩ := h.h
  cases h1 with
  | cons hm hr =>
    rw [winsS] at h2
    refine ⟨_, _, _, _, _, rfl, hm, fun e => ?_, fun e => ?_, fun e f => ⟨_, hr, ?_⟩⟩
    · rw [if_pos e] at h2; exact h2.symm
    · rw [if_pos e] at h2; split at h2 <;> exact h2.symm
    · rw [if_neg (by simp [e]), if_neg (by simp [f])] at h2; exact h2
theorem WnP.stop {x y t : Int} {news : Led} {R : Bool} (h : WnP x y t news R [] ()) : R = false := by
  obtain ⟨qs, h1, h2⟩ := h.h
  cases h1
  exact h2.symm
structure InP (x y t : Int) (led : Led) (R : Bool) (rest : List Value) (c : Unit) : Prop where
  h : ∃ qs, PairsAre led rest qs ∧ qs.any (fun p => win1 x y t p.1 p.2) = R
theorem InP.next {x y t : Int} {led : Led} {R : Bool} {v : Value} {rest : List Value} (h : InP x y t led R (v :: rest) ()) : ∃ a c d t1 t2, v = .ref a ∧ (a, ({ cls := .type "tuple", data := .seq #[.int c t1, .int d t2] } : Obj)) ∈ led ∧
    (win1 x y t c d = true → R = true) ∧ (win1 x y t c d = false → InP x y t led R rest ()) := by
  obtain ⟨qs, h1, h2⟩ := h.h
  cases h1 with
  | cons hm hr =>
    rw [List.any_cons] at h2
    refine ⟨_, _, _, _, _, rfl, hm, fun e => ?_, fun e => ⟨_, hr, ?_⟩⟩
    · dsimp only at h2; rw [e] at h2; simpa using h2.symm
    · dsimp only at h2; rw [e] at h2; simpa using h2
theorem InP.stop {x y t : Int} {led : Led} {R : Bool} (h : InP x y t led R [] ()) : R = false := by
  obtain ⟨qs, h1, h2⟩ := h.h
  cases h1
  exact h2.symm
theorem WnP.both {x y t : Int} {news : Led} {R : Bool} {rest : List Value} {c d : Int} (h1 : win1 x y t c d = true → R = true) (h2 : win1 x y t d c = true → R = true) (h3 : win1 x y t c d = false → win1 x y t d c = false → WnP x y t news R rest ()) :
    (([(c, d), (d, c)] : List (Int × Int)).any (fun p => win1 x y t p.1 p.2) = true → R = true) ∧ (([(c, d), (d, c)] : List (Int × Int)).any (fun p => win1 x y t p.1 p.2) = false → WnP x y t news R rest ()) := by
  simp only [List.any_cons, List.any_nil, Bool.or_false]
  cases e1 : win1 x y t c d <;> cases e2 : win1 x y t d c <;> simp_all
theorem wins_c (w : World) (mean : ExcName → Option Value) (mg mb : Str → Option Value) (x : Int) (tx : Tok) (y : Int) (ty : Tok) (l : Addr) (vs : List Value) (ps : List (Int × Int)) (nn : Nat) (t : Int) (tt : Tok) (news : Led) (hp : PairsAre news vs ps) :
    Con Challenge.rw_pe0223_01.row.prog w (hd.heap_39 w.params) mean mg mb 138 [.int x tx, .int y ty, .ref l, .int t tt] ((l, listOf vs.toArray nn) :: news) 5 60 (fun r news' => r = .bool (winsS x y t ps) ∧ news' = ((l, listOf vs.toArray nn) :: news)) := by
  w_top off
  k_with_none
  k_fill
  intro dp un gd cn cs a ccd cl outer A₀ base h₀ L m s Q E hC1 hC2 hC3 B F X N T hk hd hu hret
  refine wpAny_call ?_
  ((k_dflt cell_enter))
  k_with "exec For Tuple Name cons nil" => (with_unfolding_all refine' PySem.W.For_turns ?F ?_ ?hs ?hE; (case F => k_asm); (case hs => (intro _; rfl)); (case hE => passes_own))
  k_with "pyIter ref" => refine Mine.stop_out ?_
  k_steps
  refine stop_in ?_
  k_with_none
  refine iter_listTurns (by rfl) (by assumption) (by assumption) (List.Mem.head _) rfl rfl ?_
  intro I hI
  refine f_items "list_iterator" (σ := Unit) (x := Str.ofString "c") (fun _ => (l, listOf vs.toArray nn) :: news) (fun _ => []) [Str.ofString "c", Str.ofString "d", Str.ofString "u", Str.ofString "v"] (by rfl) (WnP x y t news (winsS x y t ps)) ?_ ?_ vs () _ ⟨ps, hp, rfl⟩ (fun p hp => Nat.ne_of_lt (hI p hp)) (fun _ h => nomatch h) (fun _ _ _ => rfl)
  · rintro v5 r5 ⟨⟩ u5 it5 h5 tk5 hp5 hic5 F5 N5 off5
    obtain ⟨a6, c6, d6, t6, u6, rfl, hm6, hw1, hw2, hw3⟩ := hp5.next
    have N6 := kst_newsOf (l' := (a6, ({ cls := .type "tuple", data := .seq #[.int c6 t6, .int d6 u6] } : Obj)) :: (I, it5) :: (l, listOf vs.toArray nn) :: news) N5 (fun p hp => by
      simp only [List.mem_cons] at hp ⊢
      rcases hp with hp | hp
      · rw [hp]; exact .inr (.inr hm6)
      · exact hp)
    obtain ⟨hv1, hv2⟩ := WnP.both hw1 hw2 hw3
    clear hw1 hw2 hw3 N5
    k_steps
    refine iter_tupTurns (by rfl) (by assumption) (by assumption) (List.Mem.head _) rfl rfl ?_
    intro I7 hI7
    refine f_items "tuple_iterator" (σ := Unit) (x := Str.ofString "u") (fun _ => ?led8) (fun _ => []) [Str.ofString "u", Str.ofString "v"] (by rfl) (InP x y t ?led8 (([(c6, d6), (d6, c6)] : List (Int × Int)).any (fun p => win1 x y t p.1 p.2))) ?_ ?_ _ () _ ?_ ?_ (fun _ h => nomatch h) (fun _ _ _ => rfl)
    · rintro v8 r8 ⟨⟩ u8 it8 h8 tk8 hp8 hic8 F8 N8 off8
      obtain ⟨a9, c9, d9, t9, u9, rfl, hm9, hz1, hz2⟩ := hp8.next
      have N9 := News.cons' N8 hm9
      clear N8
      k_steps
      · have hR := hv1 (hz1 (decide_eq_true ⟨by assumption, by assumption, by first | exact .inl (by assumption) | exact .inr (.inl (by assumption)) | exact .inr (.inr (by assumption))⟩))
        dsimp only [FPost]
        k_steps
        exact hret _ _ _ _ ⟨congrArg Value.bool hR.symm, rfl⟩ (by k_asm) (kst_newsOf (by k_asm) (fun p hp => .tail _ (.tail _ (.tail _ (.tail _ (.tail _ (.tail _ (.tail _ hp))))))))
      · have hR := hv1 (hz1 (decide_eq_true ⟨by assumption, by assumption, by first | exact .inl (by assumption) | exact .inr (.inl (by assumption)) | exact .inr (.inr (by assumption))⟩))
        dsimp only [FPost]
        k_steps
        exact hret _ _ _ _ ⟨congrArg Value.bool hR.symm, rfl⟩ (by k_asm) (kst_newsOf (by k_asm) (fun p hp => .tail _ (.tail _ (.tail _ (.tail _ (.tail _ (.tail _ (.tail _ hp))))))))
      · have hR := hv1 (hz1 (decide_eq_true ⟨by assumption, by assumption, by first | exact .inl (by assumption) | exact .inr (.inl (by assumption)) | exact .inr (.inr (by assumption))⟩))
        dsimp only [FPost]
        k_steps
        exact hret _ _ _ _ ⟨congrArg Value.bool hR.symm, rfl⟩ (by k_asm) (kst_newsOf (by k_asm) (fun p hp => .tail _ (.tail _ (.tail _ (.tail _ (.tail _ (.tail _ (.tail _ hp))))))))
      · (rename News _ _ _ _ => nE)
        refine f_end (c' := ()) (by assumption) nE (fun _ h => nomatch h) ?_ (List.Mem.tail _ (List.Mem.head _)) (fun p hp => List.Mem.tail _ (List.Mem.tail _ hp)) (fun p hp => off8 p hp) (fun p hp => ?_) (hz2 ?_)
        · ((intro zz zh1 zh2 zh3; (try simp only [List.forall_mem_cons, List.not_mem_nil, false_implies, implies_true, and_true, ne_eq] at zh2); (try simp only [List.contains_cons, List.contains_nil, Bool.or_false, Bool.or_eq_false_iff, beq_eq_false_iff_ne, ne_eq] at zh3); first | rfl | (simp only [kstB, zh1, zh2, zh3, if_false, List.contains_cons, List.contains_nil, Bool.or_false, Bool.or_eq_true, beq_iff_eq, or_false, false_or, or_self, Bool.false_eq_true, ↓reduceIte]; done) | (simp [kstB, zh1, zh2, zh3]; done)))
        · rw [List.mem_singleton.mp hp]; exact List.Mem.head _
        · exact decide_eq_false (by rintro ⟨q1, q2, q3⟩; first | contradiction | (rcases q3 with q3 | q3 | q3 <;> contradiction))
      · (rename News _ _ _ _ => nE)
        refine f_end (c' := ()) (by assumption) nE (fun _ h => nomatch h) ?_ (List.Mem.tail _ (List.Mem.head _)) (fun p hp => List.Mem.tail _ (List.Mem.tail _ hp)) (fun p hp => off8 p hp) (fun p hp => ?_) (hz2 ?_)
        · ((intro zz zh1 zh2 zh3; (try simp only [List.forall_mem_cons, List.not_mem_nil, false_implies, implies_true, and_true, ne_eq] at zh2); (try simp only [List.contains_cons, List.contains_nil, Bool.or_false, Bool.or_eq_false_iff, beq_eq_false_iff_ne, ne_eq] at zh3); first | rfl | (simp only [kstB, zh1, zh2, zh3, if_false, List.contains_cons, List.contains_nil, Bool.or_false, Bool.or_eq_true, beq_iff_eq, or_false, false_or, or_self, Bool.false_eq_true, ↓reduceIte]; done) | (simp [kstB, zh1, zh2, zh3]; done)))
        · rw [List.mem_singleton.mp hp]; exact List.Mem.head _
        · exact decide_eq_false (by rintro ⟨q1, q2, q3⟩; first | contradiction | (rcases q3 with q3 | q3 | q3 <;> contradiction))
      · (rename News _ _ _ _ => nE)
        refine f_end (c' := ()) (by assumption) nE (fun _ h => nomatch h) ?_ (List.Mem.tail _ (List.Mem.head _)) (fun p hp => List.Mem.tail _ (List.Mem.tail _ hp)) (fun p hp => off8 p hp) (fun p hp => ?_) (hz2 ?_)
        · ((intro zz zh1 zh2 zh3; (try simp only [List.forall_mem_cons, List.not_mem_nil, false_implies, implies_true, and_true, ne_eq] at zh2); (try simp only [List.contains_cons, List.contains_nil, Bool.or_false, Bool.or_eq_false_iff, beq_eq_false_iff_ne, ne_eq] at zh3); first | rfl | (simp only [kstB, zh1, zh2, zh3, if_false, List.contains_cons, List.contains_nil, Bool.or_false, Bool.or_eq_true, beq_iff_eq, or_false, false_or, or_self, Bool.false_eq_true, ↓reduceIte]; done) | (simp [kstB, zh1, zh2, zh3]; done)))
        · rw [List.mem_singleton.mp hp]; exact List.Mem.head _
        · exact decide_eq_false (by rintro ⟨q1, q2, q3⟩; first | contradiction | (rcases q3 with q3 | q3 | q3 <;> contradiction))
    · rintro ⟨⟩ u8 h8 tk8 hp8 F8 N8
      have hf := hv2 hp8.stop
      k_steps
      refine f_end (c' := ()) (by assumption) N8 (fun _ h => nomatch h) ?_ (List.Mem.tail _ (List.Mem.tail _ (List.Mem.tail _ (List.Mem.tail _ (List.Mem.head _))))) (fun p hp => ?_) (fun p hp => off5 p hp) (fun p hp => ?_) hf
      · ((intro zz zh1 zh2 zh3; (try simp only [List.forall_mem_cons, List.not_mem_nil, false_implies, implies_true, and_true, ne_eq] at zh2); (try simp only [List.contains_cons, List.contains_nil, Bool.or_false, Bool.or_eq_false_iff, beq_eq_false_iff_ne, ne_eq] at zh3); first | rfl | (simp only [kstB, zh1, zh2, zh3, if_false, List.contains_cons, List.contains_nil, Bool.or_false, Bool.or_eq_true, beq_iff_eq, or_false, false_or, or_self, Bool.false_eq_true, ↓reduceIte]; done) | (simp [kstB, zh1, zh2, zh3]; done)))
      · exact List.Mem.tail _ (List.Mem.tail _ (List.Mem.tail _ (List.Mem.tail _ (List.Mem.tail _ hp))))
      · rw [List.mem_singleton.mp hp]; exact List.Mem.head _
    · exact ⟨[(c6, d6), (d6, c6)], .cons (List.Mem.tail _ (List.Mem.tail _ (List.Mem.head _))) (.cons (List.Mem.tail _ (List.Mem.head _)) .nil), rfl⟩
    · exact fun p hp => Nat.ne_of_lt (hI7 p hp)
  · rintro ⟨⟩ u5 h5 tk5 hp5 F5 N5
    have hf := hp5.stop
    k_steps
    all_goals exact hret _ _ _ _ ⟨congrArg Value.bool hf.symm, rfl⟩ (by k_asm) (by k_asm)
end
section
theorem pat1_at {h : Heap} {p : Params} (X : (hd.heap_39 p).In h) : PatAt h 114 code1 :=
  ⟨113, _, _, _, _, _, X 114 _ (by with_unfolding_all rfl), X 113 _ (by with_unfolding_all rfl), by decide +kernel⟩
theorem pat2_at {h : Heap} {p : Params} (X : (hd.heap_39 p).In h) : PatAt h 119 code2 :=
  ⟨118, _, _, _, _, _, X 119 _ (by with_unfolding_all rfl), X 118 _ (by with_unfolding_all rfl), by decide +kernel⟩
theorem sub1_K {prog : Program} {w : World} {A : Around} {E : Value → Shared → Prop} {s : Shared} {h₀ : Heap} {L : Addr} {m : Str → Option Value} {news : Led} {Q : Value → Shared → Prop} {p : Params} {st repl : Str} {t tr : Tok} (X : (hd.heap_39 p).In h₀) (F : Fr h₀ L s.heap m) (N : News h₀ L s.heap news) (hr : repl = Str.ofString "..") (hz : st.cps.size ≤ 100000)
    (h : ∀ h' tk tok, Fr h₀ L h' m → News h₀ L h' news → Q (.str ⟨(dots true st.cps.toList).toArray⟩ tok) { s with heap := h', toks := tk }) : wpAny (model prog w) A (call (.builtin "re.Pattern.sub") [.ref 114, .str repl tr, .str st t]) Q E s := by
  subst hr
  refine sub_wp ((pat1_at X).grown F.keep) (srch1 _ hz) hz (by decide +kernel) (by decide +kernel) fun h' tk tok hg => ?_
  rw [show (Str.ofString "..").cps.toList = [46, 46] by decide +kernel, sub1 _ _ 0 (by omega) (Nat.zero_le _)]
  exact h h' tk tok (F.grownK hg) (N.grown hg)
theorem sub2_K {prog : Program} {w : World} {A : Around} {E : Value → Shared → Prop} {s : Shared} {h₀ : Heap} {L : Addr} {m : Str → Option Value} {news : Led} {Q : Value → Shared → Prop} {p : Params} {st repl : Str} {t tr : Tok} (X : (hd.heap_39 p).In h₀) (F : Fr h₀ L s.heap m) (N : News h₀ L s.heap news) (hr : repl = Str.ofString "\r\n") (hz : st.cps.size ≤ 100000)
    (h : ∀ h' tk tok, Fr h₀ L h' m → News h₀ L h' news → Q (.str ⟨(norm st.cps.toList).toArray⟩ tok) { s with heap := h', toks := tk }) : wpAny (model prog w) A (call (.builtin "re.Pattern.sub") [.ref 119, .str repl tr, .str st t]) Q E s := by
  subst hr
  refine sub_wp ((pat2_at X).grown F.keep) (srch2 _) hz (by decide +kernel) (by decide +kernel) fun h' tk tok hg => ?_
  rw [show (Str.ofString "\r\n").cps.toList = [13, 10] by decide +kernel, sub2 _ _ 0 (by omega) (Nat.zero_le _)]
  exact h h' tk tok (F.grownK hg) (N.grown hg)
theorem meth1_K {M : Model} {A : Around} {E : Value → Shared → Prop} {s : Shared} {h₀ : Heap} {L : Addr} {m : Str → Option Value} {p : Params} {pl : Sem Bool} {Q : Value × List Value → Shared → Prop} (X : (hd.heap_39 p).In h₀) (F : Fr h₀ L s.heap m) (h : Q (.builtin "re.Pattern.sub", [.ref 114]) s) : wpAny M A (getMethod (.ref 114) "sub" pl) Q E s := getMethod_sub ((pat1_at X).grown F.keep) h
theorem meth2_K {M : Model} {A : Around} {E : Value → Shared → Prop} {s : Shared} {h₀ : Heap} {L : Addr} {m : Str → Option Value} {p : Params} {pl : Sem Bool} {Q : Value × List Value → Shared → Prop} (X : (hd.heap_39 p).In h₀) (F : Fr h₀ L s.heap m) (h : Q (.builtin "re.Pattern.sub", [.ref 119]) s) : wpAny M A (getMethod (.ref 119) "sub" pl) Q E s := getMethod_sub ((pat2_at X).grown F.keep) h
theorem quote_c (w : World) (mean : ExcName → Option Value) (mg mb : Str → Option Value) (st : Str) (ts : Tok) (news : Led) (hz : st.cps.size ≤ 10000) :
    Con Challenge.rw_pe0223_01.row.prog w (hd.heap_39 w.params) mean mg mb 126 [.str st ts] news 20 200 (fun r news' => ∃ tok, r = .str ⟨(quote st.cps.toList).toArray⟩ tok ∧ news' = news) := by
  w_top off
  k_with_none
  k_fill
  intro dp un gd cn cs a ccd cl outer A₀ base h₀ L m s Q E hC1 hC2 hC3 B F X N T hk hd hu hret
  refine wpAny_call ?_
  ((k_dflt cell_enter))
  k_with "getMethod ref" => first | ((k_dflt (refine Mine.meth1_K (by k_asm) (by k_asm) ?_))) | ((k_dflt (refine Mine.meth2_K (by k_asm) (by k_asm) ?_)))
  k_with "call builtin:re.Pattern.sub" => first | ((k_dflt (refine Mine.sub2_K (by k_asm) (by k_asm) (by k_asm) (by rfl) (by omega) ?_); intro zh8 ztk8 ztok8 zF8 zN8; (try dsimp only); (try k_fold))) | ((k_dflt (refine Mine.sub1_K (by k_asm) (by k_asm) (by k_asm) (by rfl) (by (rw [List.size_toArray]; exact Nat.le_trans (Mine.norm_len _) (by rw [Array.length_toList]; omega))) ?_); intro zh8 ztk8 ztok8 zF8 zN8; (try dsimp only); (try k_fold)))
  k_steps
  all_goals exact hret _ _ _ _ ⟨_, rfl, rfl⟩ (by k_asm) (by k_asm)
end
section
noncomputable def atRoot (a b k t : Int) : Bool :=
  if k ≤ 0 ∨ b ≠ a + t * k then false
  else decide (a * a + (t - 2) * k * a - t * k * k ≤ 0 ∧ 0 < (a + 1) * (a + 1) + (t - 2) * k * (a + 1) - t * k * k)
theorem at_root_c (w : World) (mean : ExcName → Option Value) (mg mb : Str → Option Value) (a : Int) (ta : Tok) (b : Int) (tb : Tok) (k : Int) (tk : Tok) (t : Int) (tt : Tok) (news : Led) (h1 : 0 ≤ a) (h2 : a < 2000) (h3 : 0 ≤ b) (h4 : b < 2000) (h5 : 0 ≤ k) (h6 : k < 2000) (h7 : 1 ≤ t) (h8 : t ≤ 3) :
    Con Challenge.rw_pe0223_01.row.prog w (hd.heap_39 w.params) mean mg mb 152 [.int a ta, .int b tb, .int k tk, .int t tt] news 5 100 (fun r news' => r = .bool (atRoot a b k t) ∧ news' = news) := by
  w_top off
  k_with_none
  k_fill
  intro dp un gd cn cs a' ccd cl outer A₀ base h₀ L m s Q E hC1 hC2 hC3 B F X N T hk hd hu hret
  refine wpAny_call ?_
  ((k_dflt cell_enter))
  k_steps
  all_goals (refine hret _ _ _ _ ⟨congrArg Value.bool ?_, rfl⟩ (by k_asm) (by k_asm))
  all_goals (unfold atRoot)
  · rw [if_pos (.inl (by assumption))]
  · rw [if_pos (.inr (by assumption))]
  · rw [if_neg (by rintro (h | h) <;> first | omega | exact absurd (by assumption) h)]
    exact Bool.eq_iff_iff.mpr (by simp only [decide_eq_true_eq]; exact ⟨fun h => ⟨by assumption, h⟩, fun h => h.2⟩)
  · rw [if_neg (by rintro (h | h) <;> first | omega | exact absurd (by assumption) h)]
    exact Bool.eq_iff_iff.mpr (by simp only [decide_eq_true_eq]; exact ⟨fun h => absurd h (by assumption), fun h => h.1⟩)
end
section
structure FgS where
  left : Int
  tk : Tok
  fv : List Value
  fs : List Int
  cnt : Nat
  tl : Led
  p47 : Array Value
  p54 : Array Value
  fuel : Nat
/-- the figures, by the steps of the second while -/
noncomputable def fgSim (bs : List Int) : Nat → Int → List Int → Option (List Int)
  | 0, _, _ => none
  | k + 1, left, fs => if 0 < left then
      (if 0 ≤ bsR bs left bs.length 0 bs.length - 1 ∧ bsR bs left bs.length 0 bs.length - 1 < (fs.length : Int) ∧ bsR bs left bs.length 0 bs.length - 1 < (bs.length : Int) then
        (match dmS left (bs.getD (bsR bs left bs.length 0 bs.length - 1).toNat 0) with
        | none => none
        | some qr => fgSim bs k qr.2 (fs.set (bsR bs left bs.length 0 bs.length - 1).toNat qr.1))
      else none) else some fs
noncomputable def FgP (bs res : List Int) (fl : Addr) (news : Led) (c : FgS) : Prop := IntsAre c.fv c.fs ∧ c.fs.length ≤ 60 ∧ fgSim bs c.fuel c.left c.fs = some res ∧
  Tab 33 4 (Str.ofString "_int2digits.<locals>.inner") (c.tl ++ news) c.p47 ∧ Tab 48 4 (Str.ofString "_digits2int.<locals>.inner") (c.tl ++ news) c.p54 ∧ ∀ x ∈ c.tl, @LT.lt Nat _ 54 x.1 ∧ x.1 ≠ fl ∧ AllLt x.1 news
theorem FgP.next {bs res : List Int} {fl : Addr} {news : Led} {c : FgS} (h : FgP bs res fl news c) (hl : 0 < c.left) : ∃ k q r, c.fuel = k + 1 ∧ 0 ≤ bsR bs c.left bs.length 0 bs.length - 1 ∧ bsR bs c.left bs.length 0 bs.length - 1 < (c.fs.length : Int) ∧ bsR bs c.left bs.length 0 bs.length - 1 < (bs.length : Int) ∧
    dmS c.left (bs.getD (bsR bs c.left bs.length 0 bs.length - 1).toNat 0) = some (q, r) ∧ fgSim bs k r (c.fs.set (bsR bs c.left bs.length 0 bs.length - 1).toNat q) = some res := by
  obtain ⟨h1, h2, h3, h4⟩ := h
  cases hk : c.fuel with
  | zero => rw [hk] at h3; simp [fgSim] at h3
  | succ k =>
    rw [hk, fgSim, if_pos hl] at h3
    split at h3
    · rename_i hc
      split at h3
      · cases h3
      · rename_i qr e
        exact ⟨k, qr.1, qr.2, rfl, hc.1, hc.2.1, hc.2.2, e, h3⟩
    · cases h3
theorem FgP.stop {bs res : List Int} {fl : Addr} {news : Led} {c : FgS} (h : FgP bs res fl news c) (hl : ¬ 0 < c.left) : c.fs = res := by
  obtain ⟨h1, h2, h3, h4⟩ := h
  cases hk : c.fuel with
  | zero => rw [hk] at h3; simp [fgSim] at h3
  | succ k => rw [hk, fgSim, if_neg hl] at h3; exact Option.some.inj h3
noncomputable abbrev fgL (fl : Addr) (a b x y : Addr × Obj) (news : Led) (c : FgS) : Led := (fl, listOf c.fv.toArray c.cnt) :: a :: b :: x :: y :: (47, tabObj c.p47) :: (54, tabObj c.p54) :: (c.tl ++ news)
theorem while_fg {prog : Program} {w : World} {A : Around} {E : Value → Shared → Prop} {Q : Flow → Shared → Prop} {s : Shared} {env : Env} {h₀ : Heap} {L fl : Addr} {a b x y : Addr × Obj} {news : Led} {test : Expr} {body : List Stmt} {pos : Pos} {m₀ : Str → Option Value} {fv : List Value} {cnt : Nat} {p47 p54 : Array Value} (bs res fs : List Int) (left : Int) (tk : Tok) (k : Nat)
    (F : Fr h₀ L s.heap m₀) (N : News h₀ L s.heap ((fl, listOf fv.toArray cnt) :: a :: b :: x :: y :: (47, tabObj p47) :: (54, tabObj p54) :: news)) (hl : m₀ (Str.ofString "left") = some (.int left tk)) (hp : FgP bs res fl news ⟨left, tk, fv, fs, cnt, [], p47, p54, k⟩)
    (turn : ∀ (c : FgS) (u : Str → Option Value) h tk, FgP bs res fl news c → Fr h₀ L h (kstB (fun z => if [Str.ofString "place"].contains z then u z else m₀ z) [(Str.ofString "left", .int c.left c.tk)]) → News h₀ L h (fgL fl a b x y news c) →
      wpAny (model prog w) A (isTrue test env (eval test env)) (fun b' s₂ =>
        if b' = true then wpAny (model prog w) A (execs body env) (WPost h₀ L s (fgL fl a b x y news) (fun c => [(Str.ofString "left", .int c.left c.tk)]) [Str.ofString "place"] m₀ (FgP bs res fl news) (fun c => c.fuel) Q c) E s₂ else Q .next s₂) E { s with heap := h, toks := tk })
    (hE : PassesOwn (model prog w) A env E := by passes_own) :
    wpAny (model prog w) A (exec (.While test body [] pos) env) Q E s :=
  w_while (σ := FgS) (fgL fl a b x y news) (fun c => [(Str.ofString "left", .int c.left c.tk)]) [Str.ofString "place"] (FgP bs res fl news) (fun c => c.fuel) ⟨left, tk, fv, fs, cnt, [], p47, p54, k⟩ F N (fun p hp => by rw [List.mem_singleton.mp hp]; exact hl) (fun _ h => h) hp turn hE
theorem perm3 {α : Type} {a b c : α} {r : List α} : ∀ p ∈ c :: a :: b :: r, p ∈ a :: b :: c :: r := by
  intro p hp
  simp only [List.mem_cons] at hp ⊢
  rcases hp with h | h | h | h <;> simp [h]
theorem perm47 {α : Type} {a b c d e f g : α} {r : List α} : ∀ p ∈ f :: g :: c :: a :: b :: d :: e :: r, p ∈ c :: a :: b :: d :: e :: f :: g :: r := by
  intro p hp
  simp only [List.mem_cons] at hp ⊢
  rcases hp with h | h | h | h | h | h | h | h <;> simp [h]
theorem tab5 {line col : Int} {qual : Str} {a b x y z : Addr × Obj} {r : Led} {ps : Array Value} (h : Tab line col qual r ps) : Tab line col qual (a :: b :: x :: y :: z :: r) ps :=
  h.mono fun _ hp => List.Mem.tail _ (List.Mem.tail _ (List.Mem.tail _ (List.Mem.tail _ (List.Mem.tail _ hp))))
theorem big5 {a b x y z : Addr} {oa ob ox oy oz : Obj} {r : Led} (h1 : @LT.lt Nat _ 54 a) (h2 : @LT.lt Nat _ 54 b) (h3 : @LT.lt Nat _ 54 x) (h4 : @LT.lt Nat _ 54 y) (h5 : @LT.lt Nat _ 54 z) (h : ∀ p ∈ r, @LT.lt Nat _ 54 p.1) : ∀ p ∈ (a, oa) :: (b, ob) :: (x, ox) :: (y, oy) :: (z, oz) :: r, @LT.lt Nat _ 54 p.1 := by
  intro p hp
  simp only [List.mem_cons] at hp
  rcases hp with rfl | rfl | rfl | rfl | rfl | hp
  · exact h1
  · exact h2
  · exact h3
  · exact h4
  · exact h5
  · exact h p hp
theorem bigApp {t n : Led} {fl : Addr} (h1 : ∀ x ∈ t, @LT.lt Nat _ 54 x.1 ∧ x.1 ≠ fl ∧ AllLt x.1 n) (h2 : ∀ p ∈ n, @LT.lt Nat _ 54 p.1) : ∀ p ∈ t ++ n, @LT.lt Nat _ 54 p.1 := by
  intro p hp
  rcases List.mem_append.mp hp with hp | hp
  · exact (h1 p hp).1
  · exact h2 p hp
/-- the quotient and the rest, sealed: no unifier looks within -/
structure DmEq (a b q r : Int) : Prop where
  h : dmS a b = some (q, r)
theorem tab_drop1 {line col : Int} {qual : Str} {pre post : Led} {ps : Array Value} {fl : Addr × Obj} (hf : ∀ vs, fl.2.data ≠ .fields vs) (h : Tab line col qual (pre ++ fl :: post) ps) : Tab line col qual (pre ++ post) ps := by
  rcases h with h | ⟨c, oc, vs', t, h1, h2, h3, h4⟩
  · exact .inl h
  · refine .inr ⟨c, oc, vs', t, h1, ?_, h3, h4⟩
    simp only [List.mem_append, List.mem_cons] at h2 ⊢
    rcases h2 with h2 | h2 | h2
    · exact .inl h2
    · exact absurd h3 (by rw [← h2] at hf; exact hf vs')
    · exact .inr h2
theorem fg_in {h₀ h : Heap} {L : Addr} {q r : Int} {rv : Value} {n8 jk news : Led} {fl bl x c1 c2 : Addr × Obj} (hR : DmR q r (bl :: fl :: x :: c1 :: c2 :: (jk ++ news)) rv n8) (N : News h₀ L h n8) (hf : ∀ vs, fl.2.data ≠ .fields vs)
    (hb : @LT.lt Nat _ 54 bl.1 ∧ @LT.lt Nat _ bl.1 fl.1 ∧ AllLt bl.1 news) (hx : @LT.lt Nat _ 54 x.1 ∧ @LT.lt Nat _ x.1 fl.1 ∧ AllLt x.1 news) (h1 : @LT.lt Nat _ 54 c1.1 ∧ @LT.lt Nat _ c1.1 fl.1 ∧ AllLt c1.1 news) (h2 : @LT.lt Nat _ 54 c2.1 ∧ @LT.lt Nat _ c2.1 fl.1 ∧ AllLt c2.1 news) (hj : ∀ p ∈ jk, @LT.lt Nat _ 54 p.1 ∧ p.1 ≠ fl.1 ∧ AllLt p.1 news) (hn : AllLt fl.1 news) :
    ∃ D t u tl p47 p54, rv = .ref D ∧ News h₀ L h (fl :: (47, tabObj p47) :: (54, tabObj p54) :: (D, tupO q r t u) :: bl :: x :: c1 :: c2 :: (tl ++ news)) ∧ Tab 33 4 (Str.ofString "_int2digits.<locals>.inner") (tl ++ news) p47 ∧ Tab 48 4 (Str.ofString "_digits2int.<locals>.inner") (tl ++ news) p54 ∧
      (∀ p ∈ tl, @LT.lt Nat _ 54 p.1 ∧ p.1 ≠ fl.1 ∧ AllLt p.1 news) ∧ (∀ p ∈ tl ++ news, p.1 ≠ fl.1) ∧ (@LT.lt Nat _ 54 D ∧ @LT.lt Nat _ fl.1 D ∧ @LT.lt Nat _ bl.1 D ∧ @LT.lt Nat _ x.1 D) := by
  obtain ⟨D, t, u, tl, p47, p54, e1, e2, T1, T2, ⟨hD, hA⟩, hZ⟩ := hR
  subst e2
  have aux : ∀ {line col : Int} {qual : Str} {ps : Array Value}, Tab line col qual (tl ++ (bl :: fl :: x :: c1 :: c2 :: (jk ++ news))) ps → Tab line col qual ((tl ++ bl :: x :: c1 :: c2 :: jk) ++ news) ps := by
    intro line col qual ps T
    have T' := tab_drop1 (pre := tl ++ [bl]) (post := x :: c1 :: c2 :: (jk ++ news)) hf (by simpa using T)
    simpa using T'
  have hT : ∀ p ∈ tl ++ bl :: x :: c1 :: c2 :: jk, @LT.lt Nat _ 54 p.1 ∧ p.1 ≠ fl.1 ∧ AllLt p.1 news := by
    intro p hp
    simp only [List.mem_append, List.mem_cons] at hp
    rcases hp with hp | hp | hp | hp | hp | hp
    · exact ⟨(hZ p hp).1, Nat.ne_of_gt (hZ p hp).2.2.1, allLt_sub (hZ p hp).2 (fun p hp => by simp [hp]) (Nat.le_refl _)⟩
    · subst hp; exact ⟨hb.1, Nat.ne_of_lt hb.2.1, hb.2.2⟩
    · subst hp; exact ⟨hx.1, Nat.ne_of_lt hx.2.1, hx.2.2⟩
    · subst hp; exact ⟨h1.1, Nat.ne_of_lt h1.2.1, h1.2.2⟩
    · subst hp; exact ⟨h2.1, Nat.ne_of_lt h2.2.1, h2.2.2⟩
    · exact hj p hp
  refine ⟨D, t, u, tl ++ bl :: x :: c1 :: c2 :: jk, p47, p54, e1, fun p hp => N p ?_, aux T1, aux T2, hT, fun p hp => ?_, hD, hA.2.1, hA.1, hA.2.2.1⟩
  · simp only [List.mem_append, List.mem_cons] at hp ⊢
    rcases hp with hp | hp | hp | hp | hp | hp | hp | hp | (hp | hp | hp | hp | hp | hp) | hp <;> simp [hp]
  · rcases List.mem_append.mp hp with hp | hp
    · exact (hT p hp).2.1
    · exact ne_allLt hn (Nat.le_refl _) p hp
theorem fgL_mem {fl a b x y p47 p54 d : Addr × Obj} {r : Led} : ∀ p ∈ fl :: a :: b :: x :: y :: p47 :: p54 :: r, p ∈ fl :: p47 :: p54 :: d :: b :: a :: x :: y :: r := by
  intro p hp
  simp only [List.mem_cons] at hp ⊢
  rcases hp with hp | hp | hp | hp | hp | hp | hp | hp <;> simp [hp]
/-- the place of the first figure that is not nought -/
noncomputable def nzS (fs : List Int) : Nat → Int → Option Int
  | 0, _ => none
  | k + 1, n => if 0 ≤ n ∧ n < (fs.length : Int) then (if fs.getD n.toNat 0 = 0 then nzS fs k (n + 1) else some n) else none
structure NzP (fs : List Int) (R : Int) (c : Int × Tok × Nat) : Prop where
  h : nzS fs c.2.2 c.1 = some R
theorem NzP.bnd {fs : List Int} {R n : Int} {t : Tok} {k : Nat} (h : NzP fs R (n, t, k)) : 0 ≤ n ∧ n < (fs.length : Int) := by
  have h := h.h
  cases k with
  | zero => simp [nzS] at h
  | succ k =>
    dsimp only at h
    rw [nzS] at h
    split at h
    · assumption
    · cases h
theorem NzP.next {fs : List Int} {R n : Int} {t : Tok} {k : Nat} (h : NzP fs R (n, t, k)) (hz : fs.getD n.toNat 0 = 0) : ∃ k', k = k' + 1 ∧ ∀ t', NzP fs R (n + 1, t', k') := by
  have hb := h.bnd
  have h := h.h
  cases k with
  | zero => simp [nzS] at h
  | succ k =>
    dsimp only at h
    rw [nzS, if_pos hb, if_pos hz] at h
    exact ⟨k, rfl, fun _ => ⟨h⟩⟩
theorem NzP.stop {fs : List Int} {R n : Int} {t : Tok} {k : Nat} (h : NzP fs R (n, t, k)) (hz : ¬ fs.getD n.toNat 0 = 0) : n = R := by
  have hb := h.bnd
  have h := h.h
  cases k with
  | zero => simp [nzS] at h
  | succ k =>
    dsimp only at h
    rw [nzS, if_pos hb, if_neg hz] at h
    exact Option.some.inj h
theorem while_nz {prog : Program} {w : World} {A : Around} {E : Value → Shared → Prop} {Q : Flow → Shared → Prop} {s : Shared} {env : Env} {h₀ : Heap} {L : Addr} {led : Led} {test : Expr} {body : List Stmt} {pos : Pos} {m₀ : Str → Option Value} (fs : List Int) (R : Int) (n : Int) (t : Tok) (k : Nat)
    (F : Fr h₀ L s.heap m₀) (N : News h₀ L s.heap led) (hl : m₀ (Str.ofString "noughts") = some (.int n t)) (hp : NzP fs R (n, t, k))
    (turn : ∀ (n : Int) (t : Tok) (k : Nat) h tk, NzP fs R (n, t, k) → Fr h₀ L h (kstB m₀ [(Str.ofString "noughts", .int n t)]) → News h₀ L h led →
      wpAny (model prog w) A (isTrue test env (eval test env)) (fun b' s₂ =>
        if b' = true then wpAny (model prog w) A (execs body env) (WPost h₀ L s (fun _ : Int × Tok × Nat => led) (fun c => [(Str.ofString "noughts", .int c.1 c.2.1)]) [] m₀ (NzP fs R) (fun c => c.2.2) Q (n, t, k)) E s₂ else Q .next s₂) E { s with heap := h, toks := tk })
    (hE : PassesOwn (model prog w) A env E := by passes_own) :
    wpAny (model prog w) A (exec (.While test body [] pos) env) Q E s :=
  w_while (σ := Int × Tok × Nat) (fun _ => led) (fun c => [(Str.ofString "noughts", .int c.1 c.2.1)]) [] (NzP fs R) (fun c => c.2.2) (n, t, k) F N (fun p hp => by rw [List.mem_singleton.mp hp]; exact hl) (fun _ h => h) hp (fun c u h tk hp F N => turn c.1 c.2.1 c.2.2 h tk hp F N) hE
theorem ints_get {vs : List Value} {ns : List Int} (h : IntsAre vs ns) : ∀ i : Nat, i < ns.length → ∃ t, vs[i]? = some (.int (ns.getD i 0) t) := by
  induction h with
  | nil => intro i hi; exact absurd hi (Nat.not_lt_zero _)
  | cons n t _ ih => intro i hi; cases i with
    | zero => exact ⟨t, rfl⟩
    | succ i => exact ih i (Nat.lt_of_succ_lt_succ hi)
theorem item_K {prog : Program} {w : World} {A : Around} {E : Value → Shared → Prop} {s : Shared} {h₀ : Heap} {L D : Addr} {news : Led} {vs : List Value} {ns : List Int} {cnt : Nat} {k : Int} {u : Tok} {value slice : Expr} {Q : Value → Shared → Prop} (N : News h₀ L s.heap news) (hm : (D, listOf vs.toArray cnt) ∈ news) (hi : IntsAre vs ns) (h0 : 0 ≤ k) (h1 : k < (ns.length : Int)) (hl : ns.length ≤ 1000)
    (h : ∀ t, Q (.int (ns.getD k.toNat 0) t) s)
    (hs : subscripted slice false (.ref D) (.int k u) = operate [.ref D, .int k u] (getItem (.ref D) (.int k u)) := by with_unfolding_all rfl) (hg : ∀ r, letTemporaryGo value (.ref D) r = pure () := by intro _; with_unfolding_all rfl) :
    wpAny (model prog w) A (subscriptTail value slice (.ref D) (.int k u)) Q E s := by
  obtain ⟨t, e⟩ := ints_get hi k.toNat (by omega)
  exact item_listL ⟨_, (N _ hm).1, rfl, _, rfl⟩ h0 (by omega) e (h t) hs hg
structure BitB (ns : List Int) : Prop where
  h : ∀ i : Nat, Builtin.Int.intBits (ns.getD i 0) ≤ 64
theorem mul_B {prog : Program} {w : World} {A : Around} {E : Value → Shared → Prop} {s : Shared} {ns : List Int} {i : Nat} {b : Int} {t u : Tok} {Q : Value → Shared → Prop} (hb : BitB ns) (h : ∀ v, Q (.int (ns.getD i 0 * b) v) { s with toks := s.toks + 1 }) : wpAny (model prog w) A (binaryOp .Mult (.int (ns.getD i 0) t) (.int b u)) Q E s :=
  mul_int (h _) (IntMulOk.of_left (hb.h i))
/-- _law_partner, by its steps -/
noncomputable def ptF (bs fs : List Int) (m n : Int) : Int × Int :=
  if n.fmod 2 = 0 then (m, (List.map (fun k => fs.getD k.toNat 0 * bs.getD (k + 1).toNat 0) (rangeKs 0 ((bs.length : Int) - 1 - 0).toNat)).sum)
  else ((List.map (fun k => fs.getD (k + 1).toNat 0 * bs.getD k.toNat 0) (rangeKs 0 ((bs.length : Int) - 1 - 0).toNat)).sum, m)
theorem pt_fin {h₀ h : Heap} {L D : Addr} {a b : Int} {t u : Tok} {d fl x bl c1 c2 : Addr × Obj} {p p' : Array Value} {f : Addr} {jk news : Led} (N : News h₀ L h ((D, ({ cls := .type "tuple", data := .seq #[.int a t, .int b u] } : Obj)) :: d :: fl :: x :: bl :: c1 :: c2 :: (47, tabObj p) :: (54, tabObj p') :: (jk ++ news)))
    (T1 : Tab 33 4 (Str.ofString "_int2digits.<locals>.inner") (jk ++ news) p) (T2 : Tab 48 4 (Str.ofString "_digits2int.<locals>.inner") (jk ++ news) p') (hD : @LT.lt Nat _ 54 D) (hA : AllLt D (jk ++ news)) (hj : ∀ x ∈ jk, @LT.lt Nat _ 54 x.1 ∧ x.1 ≠ f ∧ AllLt x.1 news) : ∃ news', DmR a b news (.ref D) news' ∧ News h₀ L h news' := by
  refine ⟨_, ⟨D, t, u, jk, p, p', rfl, rfl, T1, T2, ⟨hD, allLt_sub hA (fun q hq => List.mem_append_right _ hq) (Nat.le_refl _)⟩, fun x hx => ⟨(hj x hx).1, (hj x hx).2.2⟩⟩, fun q hq => N q ?_⟩
  simp only [List.mem_append, List.mem_cons] at hq ⊢
  rcases hq with hq | hq | hq | hq | hq <;> simp [hq]
noncomputable abbrev zs (n : Nat) : List Int := (List.replicate ((n : Nat) : Int).toNat [(0 : Int)]).flatten
/-- the basis, grown by its steps -/
noncomputable def bgSim (t : Int) : Nat → List Int → Option (List Int)
  | 0, _ => none
  | k + 1, bs => if bs.getD (-1 + (bs.length : Int)).toNat 0 < 2000 then bgSim t k (bs ++ [t * bs.getD (-1 + (bs.length : Int)).toNat 0 + bs.getD (-2 + (bs.length : Int)).toNat 0]) else some bs
/-- what _law_partner of m and t hands back, with all that its walk asks -/
noncomputable def PtOk (t m a b : Int) : Prop := ∃ bs fs n, bgSim t 40 [1, t + 1] = some bs ∧ fgSim bs 20 m (zs bs.length) = some fs ∧ nzS fs 60 0 = some n ∧ fs.length = bs.length ∧ BitB fs ∧ ptF bs fs m n = (a, b)
end
section
theorem rng_a {k : Int} {m n : Nat} (hh : k < 0 + (((((n : Nat) : Int) - 1 - 0).toNat : Nat) : Int)) (hl : m = n) (hn : 2 ≤ n) : k + 1 < (m : Int) := by omega
theorem rng_b {k : Int} {m n : Nat} (hh : k < 0 + (((((n : Nat) : Int) - 1 - 0).toNat : Nat) : Int)) (hl : m = n) : k < (m : Int) := by omega
noncomputable abbrev BgS := List Value × List Int × Nat × Nat
noncomputable def BgP (t : Int) (res : List Int) (c : BgS) : Prop := IntsAre c.1 c.2.1 ∧ 2 ≤ c.2.1.length ∧ c.2.1.length + c.2.2.2 ≤ 60 ∧ bgSim t c.2.2.2 c.2.1 = some res
theorem BgP.next {t : Int} {res bs : List Int} {bv : List Value} {cnt k : Nat} (h : BgP t res (bv, bs, cnt, k)) (hl : bs.getD (-1 + (bs.length : Int)).toNat 0 < 2000) : ∃ k', k = k' + 1 ∧ ∀ t1 cnt', BgP t res (bv ++ [.int (t * bs.getD (-1 + (bs.length : Int)).toNat 0 + bs.getD (-2 + (bs.length : Int)).toNat 0) t1], bs ++ [t * bs.getD (-1 + (bs.length : Int)).toNat 0 + bs.getD (-2 + (bs.length : Int)).toNat 0], cnt', k') := by
  obtain ⟨h1, h2, h3, h4⟩ := h
  cases k with
  | zero => simp [bgSim] at h4
  | succ k =>
    dsimp only at h1 h2 h3 h4
    rw [bgSim, if_pos hl] at h4
    exact ⟨k, rfl, fun t1 cnt' => ⟨IntsAre.append h1 (.cons _ _ .nil), by simp only [List.length_append, List.length_cons, List.length_nil]; omega, by simp only [List.length_append, List.length_cons, List.length_nil]; omega, h4⟩⟩
theorem BgP.stop {t : Int} {res bs : List Int} {bv : List Value} {cnt k : Nat} (h : BgP t res (bv, bs, cnt, k)) (hl : ¬ bs.getD (-1 + (bs.length : Int)).toNat 0 < 2000) : bs = res := by
  obtain ⟨h1, h2, h3, h4⟩ := h
  cases k with
  | zero => simp [bgSim] at h4
  | succ k =>
    dsimp only at h4
    rw [bgSim, if_neg hl] at h4
    exact Option.some.inj h4
theorem while_bg {prog : Program} {w : World} {A : Around} {E : Value → Shared → Prop} {Q : Flow → Shared → Prop} {s : Shared} {env : Env} {h₀ : Heap} {L bl : Addr} {rest : Led} {test : Expr} {body : List Stmt} {pos : Pos} {m₀ : Str → Option Value} {bv : List Value} {cnt : Nat} (P : BgS → Prop) (bs : List Int) (k : Nat)
    (F : Fr h₀ L s.heap m₀) (N : News h₀ L s.heap ((bl, listOf bv.toArray cnt) :: rest)) (hp : P (bv, bs, cnt, k))
    (turn : ∀ (bv : List Value) (bs : List Int) (cnt k : Nat) h tk, P (bv, bs, cnt, k) → Fr h₀ L h m₀ → News h₀ L h ((bl, listOf bv.toArray cnt) :: rest) →
      wpAny (model prog w) A (isTrue test env (eval test env)) (fun b s₂ =>
        if b = true then wpAny (model prog w) A (execs body env) (WPost h₀ L s (fun c : BgS => (bl, listOf c.1.toArray c.2.2.1) :: rest) (fun _ => []) [] m₀ P (fun c => c.2.2.2) Q (bv, bs, cnt, k)) E s₂ else Q .next s₂) E { s with heap := h, toks := tk })
    (hE : PassesOwn (model prog w) A env E := by passes_own) :
    wpAny (model prog w) A (exec (.While test body [] pos) env) Q E s :=
  w_while (σ := BgS) (fun c => (bl, listOf c.1.toArray c.2.2.1) :: rest) (fun _ => []) [] P (fun c => c.2.2.2) (bv, bs, cnt, k) F N (fun _ h => nomatch h) (fun _ h => h) hp (fun c u h tk hp F N => turn c.1 c.2.1 c.2.2.1 c.2.2.2 h tk hp F N) hE
theorem partner_t (w : World) (mean : ExcName → Option Value) (mg mb : Str → Option Value) (mm : Int) (tm : Tok) (t : Int) (tt : Tok) (news : Led) (p47 p54 : Array Value) (hT47 : Tab 33 4 (Str.ofString "_int2digits.<locals>.inner") news p47) (hT54 : Tab 48 4 (Str.ofString "_digits2int.<locals>.inner") news p54) (hbig : ∀ p ∈ news, @LT.lt Nat _ 54 p.1)
    (bs0 : List Int) (hbs : bgSim t 40 [1, t + 1] = some bs0) (res0 : List Int) (hfg : fgSim bs0 20 mm (zs bs0.length) = some res0) (nR : Int) (hnz : nzS res0 60 0 = some nR) (hfl : res0.length = bs0.length) (hfb : BitB res0) (ht0 : 1 ≤ t) (ht1 : t ≤ 3) (hm0 : 1 ≤ mm) (hm1 : mm ≤ 500) :
    Con Challenge.rw_pe0223_01.row.prog w (hd.heap_39 w.params) mean mg mb 157 [.int mm tm, .int t tt] ((47, tabObj p47) :: (54, tabObj p54) :: news) 80 1200 (DmR (ptF bs0 res0 mm nR).1 (ptF bs0 res0 mm nR).2 news) := by
  w_top off
  k_with_none
  k_fill
  intro dp un gd cn cs a' ccd cl outer A₀ base h₀ L m s Q E hC1 hC2 hC3 B F X N T hk hd hu hret
  refine wpAny_call ?_
  first | ((k_dflt cell_enter)) | ((k_dflt (refine code_defC (by k_asm) (by k_asm) (by k_asm) (by k_asm) (by k_asm) (by exact rfl) (by exact rfl) (by assumption) (by k_is) (by k_is) (by ktr_room) (by exact BindsTo.of_eq rfl) (by exact rfl) (by decide +kernel) ?_ (by exact rfl) (by exact rfl) (by exact rfl); k_whole; intro zg' zL' zh' ztk' zcells' zFG' zF' zN' zY' zB' zX' zT' zl1; (try k_lt zl1); k_cells zY'; (try simp only [List.cons_append, List.nil_append] at zN'); (try dsimp only); (try k_lift zB'); (try k_fold))))
  obtain ⟨_, _, hAL⟩ := (‹_ ∧ _ ∧ AllLt _ news›)
  k_with "exec While Compare cons nil" => refine Mine.stop_out ?_
  k_steps
  refine stop_in ?_
  k_dflt (refine' while_bg (bv := [_, _]) (BgP t bs0) [1, t + 1] 40 (by assumption) (by assumption) ⟨.cons _ _ (.cons _ _ .nil), Nat.le_refl 2, (by show 2 + 40 ≤ 60; decide), hbs⟩ ?_ (by passes_own))
  · intro bv5 bs5 cnt5 k5 h5 tk5 hp5 F5 N5
    obtain ⟨w1, w2, w3, w4⟩ := id hp5
    dsimp only at w1 w2 w3 w4
    k_steps
    · obtain ⟨k6, rfl, w6⟩ := hp5.next (by assumption)
      (rename News _ _ _ _ => nE)
      (try simp only [List.push_toArray] at nE)
      exact w_end (c' := ⟨_, _, _, _⟩) (by assumption) nE (fun _ h => nomatch h) (fun _ _ _ => rfl) (fun _ h => h) (w6 _ _) (Nat.lt_succ_self _)
    · have hb5 := hp5.stop (by assumption)
      subst hb5
      refine stop_in ?_
      k_dflt (refine' while_fg bs5 res0 (zs bs5.length) mm tm 20 (by assumption) (by assumption) (by rfl) ?hp ?_ (by passes_own))
      case hp => exact ⟨by assumption, by simp [zs]; omega, hfg, hT47, hT54, fun _ h => nomatch h⟩
      rintro ⟨left6, tl6, fv6, fs6, cnt6, jk6, q47, q54, fuel6⟩ u6 h6 tk6 hp6 F6 N6
      dsimp only [fgL] at N6 F6
      have hlen5 : bs5.length ≤ 1000 := by omega
      by_cases hl6 : 0 < left6
      · obtain ⟨k7, q7, r7, x1, x2, x3, x4, x5, x6⟩ := hp6.next hl6
        obtain ⟨y1, y2, y3, y4, y5, y6⟩ := id hp6
        have x5' := DmEq.mk x5
        clear x5
        have hbg6 := bigApp y6 hbig
        dsimp only at x1 x2 x3 x4 x5' x6 y1 y2 y3 y4 y5 y6
        k_with "call ref" => first | (((with_reducible show wpAny _ _ (call (Value.ref 91) _) _ _ _); k_dflt (refine Mine.con_use2 (by assumption) (by exact Mine.perm3) (by k_asm) (by k_asm) (by exact Mine.bisect_right_c _ _ _ _ _ _ _ _ _ _ _ (by assumption) (by assumption)) (by k_asm) (by k_asm) (by k_asm) (by k_asm) (by k_asm) (by rfl) (by ktr_room) (by ktr_units) ?_); rintro zr8 zn8 zh8 ztk8 ⟨zt8, ze1, ze2⟩ zF8 zN8; subst ze1; subst ze2; (try dsimp only); (try k_fold))) | refine Mine.stop_out ?_
        k_steps
        refine stop_in ?_
        k_dflt (refine' Mine.con_use ?C ?b1 ?b2 ?b3 ?B ?F ?X ?N ?T ?K ?d ?u ?l ?_; (case N => assumption))
        case l => exact Mine.perm47
        case T => k_asm
        case X => k_asm
        case C =>
          refine Mine.int_divmod_c _ _ _ _ _ _ _ _ _ _ _ ?t1 ?t2 ?t3 _ _ (Mine.DmEq.h x5')
          case t1 => exact tab5 y4
          case t2 => exact tab5 y5
          case t3 => refine big5 ?_ ?_ ?_ ?_ ?_ hbg6 <;> omega
        case b1 => k_asm
        case b2 => k_asm
        case b3 => k_asm
        case B => k_asm
        case F => k_asm
        case K => rfl
        case d => ktr_room
        case u => ktr_units
        intro r8 n8 h8 tk8 hR8 F8 N8
        obtain ⟨D8, t8, u8, tl8, o47, o54, rfl, N8', T47', T54', hZ8, hO8, hD8, hD8', hD8'', hD8x⟩ := fg_in hR8 N8 (fun _ h => nomatch h) ⟨by omega, by omega, by tbn_find⟩ ⟨by omega, by omega, by tbn_find⟩ ⟨by omega, by omega, allLt_sub hAL (fun _ h => h) (by omega)⟩ ⟨by omega, by omega, allLt_sub hAL (fun _ h => h) (by omega)⟩ y6 (by tbn_find)
        clear hR8 N8
        dsimp only at hO8 hD8' hD8'' hD8x
        k_steps
        (rename News _ _ _ _ => nE)
        refine w_end (c' := ⟨r7, u8, _, fs6.set (bsR bs5 left6 bs5.length 0 bs5.length - 1).toNat q7, _, tl8, o47, o54, k7⟩) (by assumption) nE (by kst_all) (by ((intro zz zh2 zh3; (try simp only [List.forall_mem_cons, List.not_mem_nil, false_implies, implies_true, and_true, ne_eq] at zh2); (try simp only [List.contains_cons, List.contains_nil, Bool.or_false, Bool.or_eq_false_iff, beq_eq_false_iff_ne, ne_eq] at zh3); first | rfl | (simp only [kstB, zh2, zh3, if_false, List.contains_cons, List.contains_nil, Bool.or_false, Bool.or_eq_true, beq_iff_eq, or_false, false_or, or_self, Bool.false_eq_true, ↓reduceIte]; done) | (simp [kstB, zh2, zh3]; done)))) fgL_mem ?_ ?_
        · exact ⟨by assumption, by dsimp only; omega, x6, T47', T54', hZ8⟩
        · dsimp only; omega
      · have hfs := hp6.stop hl6
        obtain ⟨y1, y2, y3, y4, y5, y6⟩ := id hp6
        dsimp only at hfs y1 y2 y4 y5 y6
        subst hfs
        have hz0 : ∀ t, NzP fs6 nR (0, t, 60) := fun _ => ⟨hnz⟩
        clear hnz hfg y3 hp6 hbs w4 hp5
        k_steps
        refine stop_in ?_
        k_dflt (refine' while_nz fs6 nR 0 _ 60 (by assumption) (by assumption) (by rfl) (hz0 _) ?_ (by passes_own))
        intro n9 t9 k9 h9 tk9 hp9 F9 N9
        obtain ⟨z1, z2⟩ := hp9.bnd
        k_with "exec If" => refine Mine.stop_out ?_
        k_steps
        · obtain ⟨k10, rfl, hp10⟩ := hp9.next (by assumption)
          exact w_end (c' := ⟨_, _, k10⟩) (by assumption) (by assumption) (by kst_all) (by ((intro zz zh2 zh3; (try simp only [List.forall_mem_cons, List.not_mem_nil, false_implies, implies_true, and_true, ne_eq] at zh2); (try simp only [List.contains_cons, List.contains_nil, Bool.or_false, Bool.or_eq_false_iff, beq_eq_false_iff_ne, ne_eq] at zh3); first | rfl | (simp only [kstB, zh2, zh3, if_false, List.contains_cons, List.contains_nil, Bool.or_false, Bool.or_eq_true, beq_iff_eq, or_false, false_or, or_self, Bool.false_eq_true, ↓reduceIte]; done) | (simp [kstB, zh2, zh3]; done)))) (fun _ h => h) (hp10 _) (Nat.lt_succ_self _)
        · have hn9 := hp9.stop (by assumption)
          subst hn9
          refine stop_in ?_
          k_with_none
          have hlen6 : fs6.length ≤ 1000 := by omega
          k_with "subscriptTail Name Name ref int" => (((with_reducible show wpAny _ _ (subscriptTail _ _ (Value.ref _) (Value.int _ _)) _ _ _); (with_unfolding_all refine Mine.item_K (by k_asm) (by k_mem) (by assumption) (by omega) (by first | exact Mine.rng_a (by assumption) (by first | rfl | assumption) (by assumption) | exact Mine.rng_b (by assumption) (by first | rfl | assumption) | omega) (by omega) ?_); intro zt8))
          k_with "subscriptTail Name BinOp ref int" => (((with_reducible show wpAny _ _ (subscriptTail _ _ (Value.ref _) (Value.int _ _)) _ _ _); (with_unfolding_all refine Mine.item_K (by k_asm) (by k_mem) (by assumption) (by omega) (by first | exact Mine.rng_a (by assumption) (by first | rfl | assumption) (by assumption) | exact Mine.rng_b (by assumption) (by first | rfl | assumption) | omega) (by omega) ?_); intro zt8))
          k_with "binaryOp Mult int int" => (((with_reducible show wpAny _ _ (binaryOp _ (Value.int _ _) (Value.int _ _)) _ _ _); (refine Mine.mul_B (by assumption) ?_); intro zv8))
          k_steps
          · obtain ⟨nw, hR, hN⟩ := pt_fin (by assumption) y4 y5 (by omega) (by tbn_find) y6
            exact hret _ _ _ _ (by rw [show ptF bs5 fs6 mm n9 = _ from if_pos (by assumption)]; exact hR) (by k_asm) hN
          · obtain ⟨nw, hR, hN⟩ := pt_fin (by assumption) y4 y5 (by omega) (by tbn_find) y6
            exact hret _ _ _ _ (by rw [show ptF bs5 fs6 mm n9 = _ from if_neg (by assumption)]; exact hR) (by k_asm) hN
theorem partner_c (w : World) (mean : ExcName → Option Value) (mg mb : Str → Option Value) (mm : Int) (tm : Tok) (t : Int) (tt : Tok) (news : Led) (p47 p54 : Array Value) (hT47 : Tab 33 4 (Str.ofString "_int2digits.<locals>.inner") news p47) (hT54 : Tab 48 4 (Str.ofString "_digits2int.<locals>.inner") news p54) (hbig : ∀ p ∈ news, @LT.lt Nat _ 54 p.1)
    (ht0 : 1 ≤ t) (ht1 : t ≤ 3) (hm0 : 1 ≤ mm) (hm1 : mm ≤ 500) (a b : Int) (h : PtOk t mm a b) :
    Con Challenge.rw_pe0223_01.row.prog w (hd.heap_39 w.params) mean mg mb 157 [.int mm tm, .int t tt] ((47, tabObj p47) :: (54, tabObj p54) :: news) 80 1200 (DmR a b news) := by
  obtain ⟨bs, fs, n, h1, h2, h3, h4, h5, h6⟩ := h
  have := partner_t w mean mg mb mm tm t tt news p47 p54 hT47 hT54 hbig bs h1 fs h2 n h3 h4 h5 ht0 ht1 hm0 hm1
  rw [h6] at this
  exact this
end
section
noncomputable def lostY (t x : Int) : Nat → Int → List (Int × Int) → List (Int × Int)
  | 0, _, lp => lp
  | k + 1, y, lp => lostY t x k (y + 1) (if winsS x y t lp then lp else lp ++ [(x, y)])
/-- the lost heaps, by the steps of _law_lost: n is the bound and one -/
noncomputable def lostX (t n : Int) : Nat → Int → List (Int × Int) → List (Int × Int)
  | 0, _, lp => lp
  | k + 1, x, lp => lostX t n k (x + 1) (lostY t x (n - x).toNat x lp)
structure LoS where
  lv : List Value
  lp : List (Int × Int)
  cnt : Nat
  tl : Led
structure LoP (ll J : Addr) (news : Led) (c : LoS) : Prop where
  p : PairsAre (c.tl ++ news) c.lv c.lp
  o : ∀ p ∈ c.tl, p.1 ≠ ll ∧ p.1 ≠ J
noncomputable abbrev loL (ll : Addr) (news : Led) (c : LoS) : Led := (ll, listOf c.lv.toArray c.cnt) :: (c.tl ++ news)
structure LoX (ll J : Addr) (t n : Int) (R : List (Int × Int)) (news : Led) (k : Nat) (c : LoS) : Prop where
  h : LoP ll J news c
  e : lostX t n k (n - k) c.lp = R
  z : (c.lp.length : Int) ≤ 20 * (n - k)
structure LoY (ll J : Addr) (t x n : Int) (R : List (Int × Int)) (news : Led) (k : Nat) (c : LoS) : Prop where
  h : LoP ll J news c
  e : lostY t x k (n - k) c.lp = R
  z : (c.lp.length : Int) + k ≤ 20 * (x + 1)
theorem LoY.yes {ll J : Addr} {t x n : Int} {R : List (Int × Int)} {news : Led} {k : Nat} {c : LoS} (h : LoY ll J t x n R news (k + 1) c) {y : Int} (hy : y = n - ((k + 1 : Nat) : Int)) (hw : winsS x y t c.lp = true) : LoY ll J t x n R news k c := by
  obtain ⟨h1, h2, h3⟩ := h
  subst hy
  rw [lostY, if_pos hw, show n - ((k + 1 : Nat) : Int) + 1 = n - (k : Int) by omega] at h2
  exact ⟨h1, h2, by omega⟩
theorem LoY.no {ll J : Addr} {t x n : Int} {R : List (Int × Int)} {news : Led} {k : Nat} {lv : List Value} {lp : List (Int × Int)} {cnt : Nat} {tl : Led} (h : LoY ll J t x n R news (k + 1) ⟨lv, lp, cnt, tl⟩) {y : Int} (hy : y = n - ((k + 1 : Nat) : Int)) (hw : winsS x y t lp = false) {D : Addr} {cnt' : Nat} {t1 t2 : Tok} (hD : D ≠ ll ∧ D ≠ J) :
    LoY ll J t x n R news k ⟨lv ++ [.ref D], lp ++ [(x, y)], cnt', (D, ({ cls := .type "tuple", data := .seq #[.int x t1, .int y t2] } : Obj)) :: tl⟩ := by
  obtain ⟨⟨g1, g2⟩, h2, h3⟩ := h
  subst hy
  dsimp only at g1 g2 h2 h3
  rw [lostY, if_neg (fun e => Bool.noConfusion (hw.symm.trans e)), show n - ((k + 1 : Nat) : Int) + 1 = n - (k : Int) by omega] at h2
  refine ⟨⟨PairsAre.append (g1.mono fun _ hp => .tail _ hp) (.cons (.head _) .nil), fun p hp => ?_⟩, h2, ?_⟩
  · rcases List.mem_cons.mp hp with rfl | hp
    · exact hD
    · exact g2 p hp
  · simp only [List.length_append, List.length_cons, List.length_nil]; omega
theorem LoX.next {ll J : Addr} {t n : Int} {news : Led} {k : Nat} {R : List (Int × Int)} {c c' : LoS} {x : Int} (h : LoX ll J t n R news (k + 1) c) (hx : x = n - ((k + 1 : Nat) : Int)) {x' : Int} {e' : Nat} (hx' : x' = x) (he : e' = (n - x).toNat) (g : LoY ll J t x n (lostY t x e' x' c.lp) news 0 c') : LoX ll J t n R news k c' := by
  obtain ⟨h1, h2, h3⟩ := h
  obtain ⟨g1, g2, g3⟩ := g
  subst hx' he
  refine ⟨g1, ?_, by subst hx; omega⟩
  rw [lostX, ← hx] at h2
  rw [lostY] at g2
  rw [g2, ← h2]
  congr 1
  omega
theorem lo_m1 {α : Type} {ll i7 i5 : α} {r : List α} : ∀ p ∈ i5 :: ll :: r, p ∈ ll :: i7 :: i5 :: r := by
  intro p hp
  simp only [List.mem_cons] at hp ⊢
  rcases hp with h | h | h <;> simp [h]
theorem lo_m2 {α : Type} {d ll i7 i5 : α} {r : List α} : ∀ p ∈ i5 :: ll :: (d :: r), p ∈ d :: ll :: i7 :: i5 :: r := by
  intro p hp
  simp only [List.mem_cons] at hp ⊢
  rcases hp with h | h | h | h <;> simp [h]
theorem lo_end {h₀ : Heap} {L ll J D : Addr} {s : Shared} {h' : Heap} {tk : Nat} {m₀ m' : Str → Option Value} {x0 : Str} {t x n y : Int} {R : List (Int × Int)} {news : Led} {k : Nat} {lv : List Value} {lp : List (Int × Int)} {cnt cnt' : Nat} {tl : Led} {t1 t2 : Tok} {I : Addr} {it : Obj} {i5 : Addr × Obj} {o : Obj} (F : Fr h₀ L h' m')
    (N : News h₀ L h' ((D, ({ cls := .type "tuple", data := .seq #[.int x t1, .int y t2] } : Obj)) :: (ll, listOf (lv ++ [Value.ref D]).toArray cnt') :: (I, it) :: i5 :: (tl ++ news)))
    (hr : ∀ z, z ≠ x0 → (∀ p ∈ ([] : List (Str × Value)), z ≠ p.1) → ([] : List Str).contains z = false → m' z = m₀ z)
    (h : LoY ll J t x n R news (k + 1) ⟨lv, lp, cnt, tl⟩) (hy : y = n - ((k + 1 : Nat) : Int)) (hw : winsS x y t lp = false) (hD : D ≠ ll ∧ D ≠ J) (off : ∀ p ∈ i5 :: (ll, o) :: (tl ++ news), p.1 ≠ I) (hI : D ≠ I) :
    FEnd h₀ L s I it [] (fun c => i5 :: loL ll news c) (fun _ => []) [] x0 m₀ (LoY ll J t x n R news) k { s with heap := h', toks := tk } := by
  refine f_end (c' := LoS.mk (lv ++ [.ref D]) (lp ++ [(x, y)]) cnt' ((D, ({ cls := .type "tuple", data := .seq #[.int x t1, .int y t2] } : Obj)) :: tl)) F N (fun _ h => nomatch h) hr (.tail _ (.tail _ (.head _))) (lo_m2 (ll := (ll, listOf (lv ++ [Value.ref D]).toArray cnt')) (r := tl ++ news)) (fun p hp => ?_) (fun _ h => nomatch h) (h.no hy hw hD)
  simp only [List.mem_cons, List.cons_append] at hp
  rcases hp with rfl | rfl | rfl | hp
  · exact off _ (.head _)
  · exact off (ll, o) (.tail _ (.head _))
  · exact hI
  · exact off _ (.tail _ (.tail _ hp))
theorem off_app {l : Addr} {a b : Led} (h1 : ∀ p ∈ a, p.1 ≠ l) (h2 : ∀ p ∈ b, p.1 < l) : ∀ p ∈ a ++ b, p.1 ≠ l := by
  intro p hp
  rcases List.mem_append.mp hp with hp | hp
  · exact h1 p hp
  · exact Nat.ne_of_lt (h2 p hp)
theorem PairsAre.two {a b : Addr × Obj} {r : Led} {vs : List Value} {ps : List (Int × Int)} (h : PairsAre r vs ps) : PairsAre (a :: b :: r) vs ps := h.mono fun _ hp => .tail _ (.tail _ hp)
theorem lost_c (w : World) (mean : ExcName → Option Value) (mg mb : Str → Option Value) (t : Int) (tt : Tok) (b : Int) (tb : Tok) (news : Led) (hb0 : 0 ≤ b) (hb1 : b ≤ 12) :
    Con Challenge.rw_pe0223_01.row.prog w (hd.heap_39 w.params) mean mg mb 145 [.int t tt, .int b tb] news 15 200 (fun r news' => ∃ l vs cnt tl, r = .ref l ∧ news' = (l, listOf vs.toArray cnt) :: (tl ++ news) ∧ PairsAre (tl ++ news) vs (lostX t (b + 1) (b + 1).toNat 0 []) ∧ AllLt l news) := by
  w_top off
  k_with_none
  k_fill
  intro dp un gd cn cs a ccd cl outer A₀ base h₀ L m s Q E hC1 hC2 hC3 B F X N T hk hd hu hret
  refine wpAny_call ?_
  ((k_dflt cell_enter))
  k_with "pyIter ref" => refine Mine.stop_out ?_
  k_steps
  refine stop_in ?_
  have hsm : Builtin.Range.small 0 (b + 1) 1 = true := small_one (by decide) (by decide) (by omega) (by omega)
  refine iter_rangeUnr (n := (b + 1).toNat) (by rfl) (by assumption) hsm ((rangeSize_nat _ _).trans (by rw [Int.sub_zero])) (by assumption) (by assumption) ?_
  intro I hI
  refine f_range (σ := LoS) (loL ?ll news) (fun _ => []) [Str.ofString "y"] (LoX ?ll I t (b + 1) (lostX t (b + 1) (b + 1).toNat 0 []) news) ?_ ?_ (b + 1).toNat 0 ⟨[], [], 0, []⟩ _ (Nat.zero_add _) ?_ ?_ (fun _ h => nomatch h) (fun _ _ _ _ => rfl)
  · rintro t5 k5 i5 ⟨lv5, lp5, cnt5, tl5⟩ u5 h5 tk5 hi5 hp5 F5 N5 off5
    unfold loL at N5
    dsimp only at N5
    k_steps
    refine stop_in ?_
    clear hsm
    (rename IsRange _ _ _ _ _ _ _ _ => hR7)
    (rename News _ _ _ _ => N7)
    (rename Fr _ _ _ _ => F7)
    have hsm7 : Builtin.Range.small (0 + (i5 : Int)) (b + 1) 1 = true := small_one (by omega) (by omega) (by omega) (by omega)
    refine iter_rangeUnr (n := (b + 1 - (0 + (i5 : Int))).toNat) ?_ hR7 hsm7 (rangeSize_nat _ _) F7 N7 ?_
    · rfl
    intro I7 hI7
    refine f_range (σ := LoS) (fun c => (I, itR (0 + ((i5 + 1 : Nat) : Int)) (((b + 1).toNat : Int) - ((i5 + 1 : Nat) : Int))) :: loL ?ll news c) (fun _ => []) [] (LoY ?ll I t (0 + (i5 : Int)) (b + 1) (lostY t (0 + (i5 : Int)) (b + 1 - (0 + (i5 : Int))).toNat (0 + (i5 : Int)) lp5) news) ?_ ?_ (b + 1 - (0 + (i5 : Int))).toNat 0 ⟨lv5, lp5, cnt5, tl5⟩ _ (Nat.zero_add _) ?_ ?_ (fun _ h => nomatch h) (fun _ _ _ _ => rfl)
    · rintro t8 k8 i8 ⟨lv8, lp8, cnt8, tl8⟩ u8 h8 tk8 hi8 hp8 F8 N8 off8
      unfold loL at N8
      dsimp only at N8
      have v2 := fun p hp => (hp8.h.o p hp).1
      have v1 := hp8.h.p
      have v4 := hp8.z
      dsimp only at v1 v2 v4
      k_with_none
      k_with "call ref" => ((k_dflt (refine Mine.con_use2 (by assumption) (by exact Mine.perm3) (by k_asm) (by k_asm) (by exact Mine.wins_c _ _ _ _ _ _ _ _ _ _ _ _ _ _ _ (Mine.PairsAre.two (by assumption))) (by k_asm) (by k_asm) (by k_asm) (by k_asm) (by k_asm) (by rfl) (by ktr_room) (by ktr_units) ?_); rintro zr8 zn8 zh8 ztk8 ⟨ze1, ze2⟩ zF8 zN8; subst ze1; subst ze2; (try dsimp only); (try k_fold)))
      k_with "call builtin:list.append" => ((k_here; (with_reducible show wpAny _ _ (call (Value.builtin _) [Value.ref _, _]) _ _ _); k_dflt (refine append_K (by k_asm) (by k_asm) (by k_upd) ?_ (by (rw [PySem.sizeLine_eq]; simp only [List.size_toArray]; omega)); k_whole); intro zh' zF' zN'; (try k_sweep)))
      have hl8 := v1.length
      have hoff8 := off_app v2 (by assumption)
      have hI7l : @LT.lt Nat _ _ I7 := hI7 _ (.tail _ (.head _))
      have hIl : @LT.lt Nat _ _ I := hI _ (.head _)
      k_steps
      · (rename News _ _ _ _ => nE)
        refine f_end (c' := LoS.mk lv8 lp8 cnt8 tl8) (by assumption) nE (fun _ h => nomatch h) ?_ (.tail _ (.head _)) lo_m1 (fun p hp => off8 p hp) (fun _ h => nomatch h) ?_
        · ((intro zz zh1 zh2 zh3; (try simp only [List.forall_mem_cons, List.not_mem_nil, false_implies, implies_true, and_true, ne_eq] at zh2); (try simp only [List.contains_cons, List.contains_nil, Bool.or_false, Bool.or_eq_false_iff, beq_eq_false_iff_ne, ne_eq] at zh3); first | rfl | (simp only [kstB, zh1, zh2, zh3, if_false, List.contains_cons, List.contains_nil, Bool.or_false, Bool.or_eq_true, beq_iff_eq, or_false, false_or, or_self, Bool.false_eq_true, ↓reduceIte]; done) | (simp [kstB, zh1, zh2, zh3]; done)))
        · exact hp8.yes (y := 0 + (i5 : Int) + (i8 : Int)) (by omega) (by assumption)
      · (rename News _ _ _ _ => nE)
        (try simp only [List.push_toArray] at nE)
        refine lo_end (by assumption) nE ?_ hp8 ?_ ?_ ?_ off8 ?_
        · ((intro zz zh1 zh2 zh3; (try simp only [List.forall_mem_cons, List.not_mem_nil, false_implies, implies_true, and_true, ne_eq] at zh2); (try simp only [List.contains_cons, List.contains_nil, Bool.or_false, Bool.or_eq_false_iff, beq_eq_false_iff_ne, ne_eq] at zh3); first | rfl | (simp only [kstB, zh1, zh2, zh3, if_false, List.contains_cons, List.contains_nil, Bool.or_false, Bool.or_eq_true, beq_iff_eq, or_false, false_or, or_self, Bool.false_eq_true, ↓reduceIte]; done) | (simp [kstB, zh1, zh2, zh3]; done)))
        · omega
        · assumption
        · exact ⟨Nat.ne_of_gt (by omega), Nat.ne_of_gt (by omega)⟩
        · exact Nat.ne_of_gt (by omega)
    · rintro ⟨lv8, lp8, cnt8, tl8⟩ u8 h8 tk8 hp8 F8 N8
      unfold loL at N8
      dsimp only at N8
      k_steps
      (rename News _ _ _ _ => nE)
      refine f_end (c' := LoS.mk lv8 lp8 cnt8 tl8) (by assumption) nE (fun _ h => nomatch h) ?_ (.head _) (fun p hp => .tail _ hp) ?_ (fun _ h => nomatch h) (hp5.next (by omega) rfl rfl hp8)
      · ((intro zz zh1 zh2 zh3; (try simp only [List.forall_mem_cons, List.not_mem_nil, false_implies, implies_true, and_true, ne_eq] at zh2); (try simp only [List.contains_cons, List.contains_nil, Bool.or_false, Bool.or_eq_false_iff, beq_eq_false_iff_ne, ne_eq] at zh3); first | rfl | (simp only [kstB, zh1, zh2, zh3, if_false, List.contains_cons, List.contains_nil, Bool.or_false, Bool.or_eq_true, beq_iff_eq, or_false, false_or, or_self, Bool.false_eq_true, ↓reduceIte]; done) | (simp [kstB, zh1, zh2, zh3]; done)))
      · intro p hp
        rcases List.mem_cons.mp hp with rfl | hp
        · exact off5 (_, listOf lv5.toArray cnt5) (.head _)
        · rcases List.mem_append.mp hp with hp | hp
          · exact (hp8.h.o p hp).2
          · exact off5 p (.tail _ (List.mem_append_right _ hp))
    · have w4 := hp5.z
      dsimp only at w4
      have e7 : (b + 1) - (((b + 1 - (0 + (i5 : Int))).toNat : Nat) : Int) = 0 + (i5 : Int) := by omega
      exact ⟨hp5.h, by dsimp only; rw [e7], by dsimp only; omega⟩
    · exact fun p hp => Nat.ne_of_lt (hI7 p hp)
  · rintro ⟨lv5, lp5, cnt5, tl5⟩ u5 h5 tk5 hp5 F5 N5
    obtain ⟨⟨w1, w2⟩, w3, w4⟩ := hp5
    dsimp only at w1 w2 w3 w4 N5
    k_steps
    all_goals exact hret _ _ _ _ ⟨_, _, _, _, rfl, rfl, by rw [← w3]; exact w1, allLt_of' (by assumption)⟩ (by k_asm) (by k_asm)
  · exact ⟨⟨.nil, fun _ h => nomatch h⟩, by dsimp only; congr 1; omega, by dsimp only [List.length_nil]; omega⟩
  · exact fun p hp => Nat.ne_of_lt (hI p hp)
end
section
/-- what a call leaves that may write the two code tables, and no more that is asked of -/
noncomputable def TabsR (news : Led) (news' : Led) : Prop :=
  ∃ tl p47 p54, news' = (47, tabObj p47) :: (54, tabObj p54) :: (tl ++ news) ∧ Tab 33 4 (Str.ofString "_int2digits.<locals>.inner") (tl ++ news) p47 ∧ Tab 48 4 (Str.ofString "_digits2int.<locals>.inner") (tl ++ news) p54 ∧ ∀ x ∈ tl, @LT.lt Nat _ 54 x.1 ∧ AllLt x.1 news
/-- what _law_told of m and t asks, to be True -/
structure ToldOk (t m : Int) : Prop where
  h : ∃ a b k, PtOk t m a b ∧ dmS (b - a) t = some (k, 0) ∧ 0 ≤ a ∧ a < 2000 ∧ 0 ≤ b ∧ b < 2000 ∧ 0 ≤ k ∧ k < 2000 ∧ atRoot a b k t = true
theorem told_big {n : Led} {a : Addr} {o : Obj} {tl : Led} (h : @LT.lt Nat _ 54 a ∧ AllLt a n) (h1 : ∀ x ∈ tl, @LT.lt Nat _ 54 x.1 ∧ AllLt x.1 n) (h2 : ∀ p ∈ n, @LT.lt Nat _ 54 p.1) : ∀ p ∈ (a, o) :: (tl ++ n), @LT.lt Nat _ 54 p.1 := by
  intro p hp
  rcases List.mem_cons.mp hp with rfl | hp
  · exact h.1
  · rcases List.mem_append.mp hp with hp | hp
    · exact (h1 p hp).1
    · exact h2 p hp
theorem told_fin {h₀ h : Heap} {L D2 D : Addr} {o2 o : Obj} {tl2 tl news : Led} {p p' : Array Value} (N : News h₀ L h ((47, tabObj p) :: (54, tabObj p') :: (D2, o2) :: (tl2 ++ (D, o) :: (tl ++ news))))
    (T1 : Tab 33 4 (Str.ofString "_int2digits.<locals>.inner") (tl2 ++ (D, o) :: (tl ++ news)) p) (T2 : Tab 48 4 (Str.ofString "_digits2int.<locals>.inner") (tl2 ++ (D, o) :: (tl ++ news)) p') (h1 : @LT.lt Nat _ 54 D ∧ AllLt D news) (h2 : ∀ x ∈ tl, @LT.lt Nat _ 54 x.1 ∧ AllLt x.1 news) (h3 : ∀ x ∈ tl2, @LT.lt Nat _ 54 x.1 ∧ AllLt x.1 ((D, o) :: (tl ++ news))) :
    ∃ news', TabsR news news' ∧ News h₀ L h news' := by
  refine ⟨_, ⟨tl2 ++ (D, o) :: tl, p, p', rfl, by simpa using T1, by simpa using T2, fun x hx => ?_⟩, fun q hq => N q ?_⟩
  · simp only [List.mem_append, List.mem_cons] at hx
    rcases hx with hx | rfl | hx
    · exact ⟨(h3 x hx).1, allLt_sub (h3 x hx).2 (fun q hq => by simp [hq]) (Nat.le_refl _)⟩
    · exact h1
    · exact h2 x hx
  · simp only [List.mem_append, List.mem_cons] at hq ⊢
    rcases hq with hq | hq | (hq | hq | hq) | hq <;> simp [hq]
theorem tab1 {line col : Int} {qual : Str} {a : Addr × Obj} {r : Led} {ps : Array Value} (h : Tab line col qual r ps) : Tab line col qual (a :: r) ps := h.mono fun _ hp => .tail _ hp
theorem told_c (w : World) (mean : ExcName → Option Value) (mg mb : Str → Option Value) (mm : Int) (tm : Tok) (t : Int) (tt : Tok) (news : Led) (p47 p54 : Array Value) (hT47 : Tab 33 4 (Str.ofString "_int2digits.<locals>.inner") news p47) (hT54 : Tab 48 4 (Str.ofString "_digits2int.<locals>.inner") news p54) (hbig : ∀ p ∈ news, @LT.lt Nat _ 54 p.1)
    (ht0 : 1 ≤ t) (ht1 : t ≤ 3) (hm0 : 1 ≤ mm) (hm1 : mm ≤ 500) (h : ToldOk t mm) :
    Con Challenge.rw_pe0223_01.row.prog w (hd.heap_39 w.params) mean mg mb 164 [.int mm tm, .int t tt] ((47, tabObj p47) :: (54, tabObj p54) :: news) 100 1500 (fun r news' => r = .bool true ∧ TabsR news news') := by
  w_top off
  k_with_none
  k_fill
  obtain ⟨a0, b0, k0, g1, g2, g3, g4, g5, g6, g7, g8, g9⟩ := h.h
  have g2' := DmEq.mk g2
  clear g2
  intro dp un gd cn cs a ccd cl outer A₀ base h₀ L m s Q E hC1 hC2 hC3 B F X N T hk hd hu hret
  refine wpAny_call ?_
  ((k_dflt cell_enter))
  k_with "call ref" => first | (((with_reducible show wpAny _ _ (call (Value.ref 157) _) _ _ _); k_dflt (refine Mine.con_use2 (by assumption) (by exact fun _ h => h) (by k_asm) (by k_asm) (by exact Mine.partner_c _ _ _ _ _ _ _ _ _ _ _ (by assumption) (by assumption) (by assumption) (by omega) (by omega) (by omega) (by omega) _ _ (by assumption)) (by k_asm) (by k_asm) (by k_asm) (by k_asm) (by k_asm) (by rfl) (by ktr_room) (by ktr_units) ?_); rintro zr8 zn8 zh8 ztk8 ⟨zD8, zt8, zu8, ztl8, zq47, zq54, ze1, ze2, zhU8, zhV8, zhW8, zhZ8⟩ zF8 zN8; subst ze1; subst ze2; (try dsimp only); (try k_fold))) | (((with_reducible show wpAny _ _ (call (Value.ref 73) _) _ _ _); k_dflt (refine Mine.con_use2 (by assumption) (by exact fun _ h => h) (by k_asm) (by k_asm) (by exact Mine.int_divmod_c _ _ _ _ _ _ _ _ _ _ _ (Mine.tab1 (by assumption)) (Mine.tab1 (by assumption)) (Mine.told_big (by assumption) (by assumption) (by assumption)) _ _ (Mine.DmEq.h (by assumption))) (by k_asm) (by k_asm) (by k_asm) (by k_asm) (by k_asm) (by rfl) (by ktr_room) (by ktr_units) ?_); rintro zr8 zn8 zh8 ztk8 ⟨zD8, zt8, zu8, ztl8, zq47, zq54, ze1, ze2, zhU8, zhV8, zhW8, zhZ8⟩ zF8 zN8; subst ze1; subst ze2; (try dsimp only); (try k_fold))) | (((with_reducible show wpAny _ _ (call (Value.ref 152) _) _ _ _); k_dflt (refine Mine.con_use2 (by assumption) (by exact fun _ h => h) (by k_asm) (by k_asm) (by exact Mine.at_root_c _ _ _ _ _ _ _ _ _ _ _ _ _ (by omega) (by omega) (by omega) (by omega) (by omega) (by omega) (by omega) (by omega)) (by k_asm) (by k_asm) (by k_asm) (by k_asm) (by k_asm) (by rfl) (by ktr_room) (by ktr_units) ?_); rintro zr8 zn8 zh8 ztk8 ⟨ze1, ze2⟩ zF8 zN8; subst ze1; subst ze2; (try dsimp only); (try k_fold)))
  k_steps
  obtain ⟨nw, hR, hN⟩ := told_fin (by assumption) (by assumption) (by assumption) (by assumption) (by assumption) (by assumption)
  exact hret _ _ _ _ ⟨congrArg Value.bool g9, hR⟩ (by k_asm) hN
end
section
/-- the value of figures, the lowest first -/
noncomputable def vl (N : Nat) : List Int → Int
  | [] => 0
  | d :: r => d + 2 ^ N * vl N r
theorem vl_set {N : Nat} : ∀ {ds : List Int} {i : Nat} {x : Int}, i < ds.length → vl N (ds.set i x) = vl N ds + (x - ds.getD i 0) * 2 ^ (N * i)
  | [], i, x, h => absurd h (Nat.not_lt_zero _)
  | d :: r, 0, x, _ => by
    simp only [List.set_cons_zero, vl, List.getD_cons_zero, Nat.mul_zero, Int.pow_zero, Int.mul_one]
    omega
  | d :: r, i + 1, x, h => by
    have ih := vl_set (N := N) (ds := r) (i := i) (x := x) (Nat.lt_of_succ_lt_succ h)
    simp only [List.set_cons_succ, vl, List.getD_cons_succ, ih]
    rw [Nat.mul_add, Nat.mul_one, Int.pow_add]
    grind
theorem vl_append {N : Nat} : ∀ {a b : List Int}, vl N (a ++ b) = vl N a + 2 ^ (N * a.length) * vl N b
  | [], b => by simp [vl]
  | d :: r, b => by
    rw [List.cons_append, vl, vl, vl_append (a := r), List.length_cons, Nat.mul_add, Nat.mul_one, Int.pow_add]
    grind
theorem vl_nonneg {N : Nat} : ∀ {a : List Int}, (∀ d ∈ a, 0 ≤ d) → 0 ≤ vl N a
  | [], _ => Int.le_refl 0
  | d :: r, h => by
    have h1 := h d (.head _)
    have h2 := vl_nonneg (N := N) (a := r) fun e he => h e (.tail _ he)
    have h3 : (0 : Int) ≤ 2 ^ N := Int.le_of_lt (Int.pow_pos (by decide))
    have := Int.mul_nonneg h3 h2
    rw [vl]; omega
theorem xor_low {x : Int} {s : Nat} (hx : 0 ≤ x) : Builtin.bitXor x (x.fdiv (2 ^ s) * 2 ^ s) = x % 2 ^ s := by
  obtain ⟨k, rfl⟩ := Int.eq_ofNat_of_zero_le hx
  have hp : (2 : Int) ^ s = ((2 ^ s : Nat) : Int) := by simp
  rw [hp, Int.fdiv_eq_ediv_of_nonneg _ (Int.natCast_nonneg _)]
  rw [show ((k : Int) / ((2 ^ s : Nat) : Int) * ((2 ^ s : Nat) : Int)) = ((k / 2 ^ s * 2 ^ s : Nat) : Int) by simp]
  rw [show ((k : Int) % ((2 ^ s : Nat) : Int)) = ((k % 2 ^ s : Nat) : Int) by simp]
  rw [bitXor_and, bitAnd_pp (Int.natCast_nonneg _) (Int.natCast_nonneg _)]
  simp only [Int.toNat_natCast]
  have e : k &&& (k / 2 ^ s * 2 ^ s) = k / 2 ^ s * 2 ^ s := by
    apply Nat.eq_of_testBit_eq
    intro i
    rw [Nat.testBit_and, Nat.testBit_mul_two_pow, Nat.testBit_div_two_pow]
    by_cases h : s ≤ i
    · rw [show i - s + s = i by omega]; cases k.testBit i <;> simp
    · simp [h]
  rw [e]
  have := Nat.div_add_mod k (2 ^ s)
  have h2 : 2 ^ s * (k / 2 ^ s) = k / 2 ^ s * 2 ^ s := Nat.mul_comm _ _
  omega
theorem fdiv_low {x : Int} {s : Nat} (hx : 0 ≤ x) : 0 ≤ x.fdiv (2 ^ s) ∧ x.fdiv (2 ^ s) ≤ x ∧ 0 ≤ x % 2 ^ s ∧ x % 2 ^ s ≤ x ∧ x = x.fdiv (2 ^ s) * 2 ^ s + x % 2 ^ s := by
  have hp : (0 : Int) < 2 ^ s := Int.pow_pos (by decide)
  rw [Int.fdiv_eq_ediv_of_nonneg _ (Int.le_of_lt hp)]
  refine ⟨Int.ediv_nonneg hx (Int.le_of_lt hp), Int.ediv_le_self _ hx, Int.emod_nonneg _ (by omega), ?_, ?_⟩
  · have h1 := Int.mul_ediv_add_emod x (2 ^ s)
    have h2 := Int.mul_nonneg (Int.le_of_lt hp) (Int.ediv_nonneg hx (Int.le_of_lt hp))
    omega
  · have h1 := Int.mul_ediv_add_emod x (2 ^ s)
    have h2 : 2 ^ s * (x / 2 ^ s) = x / 2 ^ s * 2 ^ s := Int.mul_comm _ _
    omega
theorem mid_eq (lo hi : Nat) : ((lo : Int) + (hi : Int)).fdiv (2 ^ Int.toNat 1) = (((lo + hi) / 2 : Nat) : Int) := by
  rw [Int.fdiv_eq_ediv_of_nonneg _ (by decide), show (2 : Int) ^ Int.toNat 1 = 2 from rfl]
  omega
/-- figures from 0 on below 2^20 -/
noncomputable def Figs (ds : List Int) : Prop := ∀ i : Nat, 0 ≤ ds.getD i 0 ∧ ds.getD i 0 < 1048576
theorem getD_set {ds : List Int} {i j : Nat} {x : Int} (h : i < ds.length) : (ds.set i x).getD j 0 = if i = j then x else ds.getD j 0 := by
  rw [List.getD_eq_getElem?_getD, List.getD_eq_getElem?_getD, List.getElem?_set]
  split
  · rename_i e; subst e; simp [h]
  · rfl
theorem le100 {k n : Nat} (h1 : k ≤ n) (h2 : n ≤ 20) : 0 ≤ (k : Int) ∧ (k : Int) ≤ 100 := by omega
theorem mid_n {lo hi m : Nat} (h1 : lo < hi) (hh : hi ≠ lo + 1) (hm : m = (lo + hi) / 2) : lo < m ∧ m < hi ∧ m - lo + (hi - m) = hi - lo ∧ lo + (m - lo) = m ∧ m - lo ≤ hi - lo ∧ hi - m ≤ hi - lo := by omega
theorem mid_p {lo hi m p : Nat} (hm : m = (lo + hi) / 2) (h : hi - lo ≤ p * 2) : m - lo ≤ p ∧ hi - m ≤ p := by omega
theorem mid_s {lo m : Nat} (N : Nat) (h : lo < m) : (((m : Nat) : Int) - (lo : Int)) * (N : Int) = (((m - lo) * N : Nat) : Int) := by
  rw [Int.natCast_mul, Int.natCast_sub (Nat.le_of_lt h)]
theorem one_ne {lo hi : Nat} (h : hi ≠ lo + 1) : ¬ (lo : Int) + 1 = (hi : Int) := fun e => h (Int.ofNat_inj.mp (Eq.trans (Eq.symm e) (Int.natCast_succ lo).symm))
theorem in_base {N d : Nat} {x : Int} {lo : Nat} {ds : List Int} (h2 : lo + 1 ≤ ds.length) (h3 : ds.length ≤ 20) (h6 : 0 ≤ x) (h7 : x < 1048576) (h8 : ds.getD lo 0 = 0) (h9 : Figs ds) :
    ∃ ds', inSim (N : Int) (d + 1) x (lo : Int) ((lo + 1 : Nat) : Int) ds = some ds' ∧ ds'.length = ds.length ∧ (∀ i : Nat, i < lo ∨ lo + 1 ≤ i → ds'.getD i 0 = ds.getD i 0) ∧ Figs ds' ∧ vl N ds' = vl N ds + x * 2 ^ (N * lo) := by
  refine ⟨ds.set lo x, ?_, List.length_set .., ?_, ?_, ?_⟩
  · rw [inSim, if_pos (Int.natCast_succ lo).symm, if_pos (by omega), Int.toNat_natCast]
  · intro i hi; rw [getD_set h2, if_neg (by omega)]
  · intro i; rw [getD_set h2]; split
    · exact ⟨h6, h7⟩
    · exact h9 i
  · rw [vl_set h2, h8, Int.sub_zero]
theorem in_val {x U V A B W v0 v1 v2 : Int} (e : x = U * A + V) (h1 : v1 = v0 + V * B) (h2 : v2 = v1 + U * W) (hw : W = A * B) : v2 = v0 + x * B := by
  subst hw h1 h2 e; grind
theorem pow_mid {N lo m : Nat} (h : lo < m) : (2 : Int) ^ (N * m) = 2 ^ ((m - lo) * N) * 2 ^ (N * lo) := by
  rw [← Int.pow_add, Nat.mul_comm (m - lo) N, ← Nat.mul_add, Nat.sub_add_cancel (Nat.le_of_lt h)]
theorem in_ok (N : Nat) : ∀ (d : Nat) (x : Int) (lo hi : Nat) (ds : List Int), lo < hi → hi ≤ ds.length → ds.length ≤ 20 → hi - lo ≤ 2 ^ d → (hi - lo) * N ≤ 60 → 0 ≤ x → x < 1048576 → (∀ i : Nat, lo ≤ i → i < hi → ds.getD i 0 = 0) → Figs ds →
    ∃ ds', inSim (N : Int) (d + 1) x (lo : Int) (hi : Int) ds = some ds' ∧ ds'.length = ds.length ∧ (∀ i : Nat, i < lo ∨ hi ≤ i → ds'.getD i 0 = ds.getD i 0) ∧ Figs ds' ∧ vl N ds' = vl N ds + x * 2 ^ (N * lo) := by
  intro d
  induction d with
  | zero =>
    intro x lo hi ds h1 h2 h3 h4 h5 h6 h7 h8 h9
    have hh : hi = lo + 1 := by clear h5 h6 h7 h8 h9; omega
    subst hh
    exact in_base h2 h3 h6 h7 (h8 lo (Nat.le_refl _) (Nat.lt_succ_self _)) h9
  | succ d ih =>
    intro x lo hi ds h1 h2 h3 h4 h5 h6 h7 h8 h9
    by_cases hh : hi = lo + 1
    · subst hh
      exact in_base h2 h3 h6 h7 (h8 lo (Nat.le_refl _) (Nat.lt_succ_self _)) h9
    · obtain ⟨m, hm⟩ : ∃ m, m = (lo + hi) / 2 := ⟨_, rfl⟩
      obtain ⟨hm1, hm2, _, _, k1, k2⟩ := mid_n h1 hh hm
      obtain ⟨k3, k4⟩ := mid_p hm (show hi - lo ≤ 2 ^ d * 2 from h4)
      have hb1 : (m - lo) * N ≤ 60 := Nat.le_trans (Nat.mul_le_mul_right _ k1) h5
      have hb2 : (hi - m) * N ≤ 60 := Nat.le_trans (Nat.mul_le_mul_right _ k2) h5
      obtain ⟨u1, u2, u3, u4, u5⟩ := fdiv_low (s := (m - lo) * N) h6
      obtain ⟨ds1, e1, e2, e3, e4, e5⟩ := ih (x % 2 ^ ((m - lo) * N)) lo m ds hm1 (Nat.le_trans (Nat.le_of_lt hm2) h2) h3 k3 hb1 u3 (Int.lt_of_le_of_lt u4 h7) (fun i a b => h8 i a (Nat.lt_trans b hm2)) h9
      obtain ⟨ds2, g1, g2, g3, g4, g5⟩ := ih (x.fdiv (2 ^ ((m - lo) * N))) m hi ds1 hm2 (e2 ▸ h2) (e2 ▸ h3) k4 hb2 u1 (Int.lt_of_le_of_lt u2 h7) (fun i a b => by rw [e3 i (.inr a)]; exact h8 i (Nat.le_trans (Nat.le_of_lt hm1) a) b) e4
      refine ⟨ds2, ?_, g2.trans e2, ?_, g4, ?_⟩
      · rw [inSim, if_neg (one_ne hh)]
        simp only [mid_eq, ← hm, mid_s N hm1, Int.toNat_natCast, xor_low h6]
        have l1 := le100 (Nat.le_trans (Nat.le_of_lt h1) h2) h3
        have l2 := le100 h2 h3
        rw [if_pos ⟨Int.natCast_nonneg _, Int.ofNat_le.mpr hb1, h6, h7, l1.1, l1.2, l2.1, l2.2⟩, e1]
        exact g1
      · intro i hi'
        rw [g3 i (hi'.imp_left fun h => Nat.lt_trans h hm1), e3 i (hi'.imp_right fun h => Nat.le_trans (Nat.le_of_lt hm2) h)]
      · exact in_val u5 e5 g5 (pow_mid hm1)
/-- the value of figures, the highest first, behind r -/
noncomputable def tv (N : Nat) (r : Int) (ds : List Int) : Int := ds.foldl (fun a d => a * 2 ^ N + d) r
theorem tv_add {N : Nat} : ∀ {ds : List Int} {c e : Int}, tv N (c + e) ds = c * 2 ^ (N * ds.length) + tv N e ds
  | [], c, e => by simp [tv]
  | d :: r, c, e => by
    have h := tv_add (N := N) (ds := r) (c := c * 2 ^ N) (e := e * 2 ^ N + d)
    have h1 : tv N (c + e) (d :: r) = tv N (c * 2 ^ N + (e * 2 ^ N + d)) r := by
      show tv N ((c + e) * 2 ^ N + d) r = _
      congr 1
      grind
    have h2 : tv N e (d :: r) = tv N (e * 2 ^ N + d) r := rfl
    rw [h1, h2, h, List.length_cons, Nat.mul_add, Nat.mul_one, Int.pow_add]
    grind
theorem tv_from {N : Nat} {ds : List Int} {c : Int} : tv N c ds = c * 2 ^ (N * ds.length) + tv N 0 ds := by
  have := tv_add (N := N) (ds := ds) (c := c) (e := 0)
  rw [Int.add_zero] at this
  exact this
theorem tv_rev {N : Nat} : ∀ {ds : List Int}, tv N 0 ds.reverse = vl N ds
  | [] => rfl
  | d :: r => by
    have h : tv N 0 (d :: r).reverse = tv N 0 r.reverse * 2 ^ N + d := by
      unfold tv
      rw [List.reverse_cons, List.foldl_append]; rfl
    rw [h, tv_rev, vl]
    grind
theorem dv_ok {b : Int} {N : Nat} (hb : 1 ≤ b) (hb1 : b ≤ 1048576) (hN : N ≤ 30) : ∀ (ds : List Int) (r : Int) (qs : List Int), 0 ≤ r → r < b → (∀ d ∈ ds, 0 ≤ d ∧ d < 1048576) →
    ∃ Q r', dvSim b (N : Int) ds r qs = some (qs ++ Q, r') ∧ Q.length = ds.length ∧ 0 ≤ r' ∧ r' < b ∧ (∀ q ∈ Q, 0 ≤ q) ∧ tv N r ds = tv N 0 Q * b + r'
  | [], r, qs, h1, h2, _ => ⟨[], r, by rw [dvSim, List.append_nil], rfl, h1, h2, (fun _ h => nomatch h), by simp [tv]⟩
  | d :: ds, r, qs, h1, h2, h3 => by
    have hd := h3 d (.head _)
    have hp0 : (0 : Int) < 2 ^ N := Int.pow_pos (by decide)
    have hx : 0 ≤ r * 2 ^ N + d := by have := Int.mul_nonneg h1 (Int.le_of_lt hp0); omega
    have hxb : Builtin.Int.intBits (r * 2 ^ N + d) ≤ 4000 := by
      refine intBits_le_iff.mpr ?_
      have hp1 : (2 : Int) ^ N ≤ 2 ^ 30 := by
        have := Nat.pow_le_pow_right (n := 2) (by decide) hN
        exact_mod_cast this
      have h5 : r * 2 ^ N ≤ 1048576 * 2 ^ N := Int.mul_le_mul_of_nonneg_right (by omega) (Int.le_of_lt hp0)
      have h6 : (r * 2 ^ N + d).natAbs < 2 ^ 60 := by
        have e1 : (2 : Int) ^ 30 = 1073741824 := by decide
        have e2 : (2 : Nat) ^ 60 = 1152921504606846976 := by decide
        omega
      exact Nat.lt_of_lt_of_le h6 (Nat.pow_le_pow_right (by decide) (by decide))
    have hq0 : 0 ≤ (r * 2 ^ N + d).fdiv b := Int.fdiv_nonneg hx (by omega)
    have hr0 : 0 ≤ (r * 2 ^ N + d).fmod b := Int.fmod_nonneg hx (by omega)
    have hr1 : (r * 2 ^ N + d).fmod b < b := Int.fmod_lt_of_pos _ (by omega)
    have he : (r * 2 ^ N + d).fdiv b * b + (r * 2 ^ N + d).fmod b = r * 2 ^ N + d := by
      have := Int.mul_fdiv_add_fmod (r * 2 ^ N + d) b
      rw [Int.mul_comm] at this; exact this
    obtain ⟨Q, r', e1, e2, e3, e4, e5, e6⟩ := dv_ok hb hb1 hN ds ((r * 2 ^ N + d).fmod b) (qs ++ [(r * 2 ^ N + d).fdiv b]) hr0 hr1 fun e he => h3 e (.tail _ he)
    refine ⟨(r * 2 ^ N + d).fdiv b :: Q, r', ?_, by rw [List.length_cons, List.length_cons, e2], e3, e4, ?_, ?_⟩
    · rw [dvSim]
      simp only [Int.toNat_natCast]
      rw [if_pos (by omega), e1, List.append_assoc]; rfl
    · intro q hq
      rcases List.mem_cons.mp hq with rfl | hq
      · exact hq0
      · exact e5 q hq
    · have t1 : tv N r (d :: ds) = tv N ((r * 2 ^ N + d).fdiv b * b + (r * 2 ^ N + d).fmod b) ds := by rw [he]; rfl
      have t2 : tv N 0 ((r * 2 ^ N + d).fdiv b :: Q) = tv N ((r * 2 ^ N + d).fdiv b) Q := by
        show tv N (0 * 2 ^ N + (r * 2 ^ N + d).fdiv b) Q = _
        rw [Int.zero_mul, Int.zero_add]
      rw [t1, t2, tv_add, e6, tv_from (c := (r * 2 ^ N + d).fdiv b), e2]
      grind
/-- the value of k figures from the place lo on -/
noncomputable def seg (N : Nat) (ds : List Int) (lo k : Nat) : Int := vl N ((ds.drop lo).take k)
theorem seg_split {N : Nat} {ds : List Int} {lo i j : Nat} (h : lo + i ≤ ds.length) : seg N ds lo (i + j) = seg N ds lo i + 2 ^ (N * i) * seg N ds (lo + i) j := by
  unfold seg
  rw [List.take_add, vl_append, List.length_take, List.length_drop, List.drop_drop, Nat.min_eq_left (by omega)]
theorem seg_one {N : Nat} {ds : List Int} {lo : Nat} (h : lo < ds.length) : seg N ds lo 1 = ds.getD lo 0 := by
  unfold seg
  rw [List.drop_eq_getElem_cons h, List.take_succ_cons, List.take_zero, vl, vl, List.getD_eq_getElem?_getD, List.getElem?_eq_getElem h]
  simp
theorem seg_nonneg {N : Nat} {ds : List Int} {lo k : Nat} (h : ∀ d ∈ ds, 0 ≤ d) : 0 ≤ seg N ds lo k := vl_nonneg fun d hd => h d (List.mem_of_mem_drop (List.mem_of_mem_take hd))
theorem d2_base {N d : Nat} {ds : List Int} {lo : Nat} (h2 : lo + 1 ≤ ds.length) (hl : ds.length ≤ 20) : d2Sim (N : Int) ds (d + 1) (lo : Int) ((lo + 1 : Nat) : Int) = some (seg N ds lo (lo + 1 - lo)) := by
  rw [d2Sim, if_pos (Int.natCast_succ lo).symm, if_pos (by omega), Int.toNat_natCast, Nat.add_sub_cancel_left, seg_one h2]
theorem d2_bnd {p q a v u : Int} (hv : v = a + p * u) (ha : 0 ≤ a) (hu : 0 ≤ u) (hp : 0 < p) (hq : v < q) : u < q ∧ a < q := by
  have := Int.mul_le_mul_of_nonneg_right (show (1 : Int) ≤ p from hp) hu
  rw [Int.one_mul] at this
  have := Int.mul_nonneg (Int.le_of_lt hp) hu
  omega
theorem d2_ok (N : Nat) (ds : List Int) (hl : ds.length ≤ 20) (h0 : ∀ d ∈ ds, 0 ≤ d) : ∀ (d lo hi : Nat), lo < hi → hi ≤ ds.length → hi - lo ≤ 2 ^ d → (hi - lo) * N ≤ 60 → seg N ds lo (hi - lo) < 1048576 → d2Sim (N : Int) ds (d + 1) (lo : Int) (hi : Int) = some (seg N ds lo (hi - lo)) := by
  intro d
  induction d with
  | zero =>
    intro lo hi h1 h2 h3 h4 h5
    have hh : hi = lo + 1 := by clear h4 h5; omega
    subst hh
    exact d2_base h2 hl
  | succ d ih =>
    intro lo hi h1 h2 h3 h4 h5
    by_cases hh : hi = lo + 1
    · subst hh
      exact d2_base h2 hl
    · obtain ⟨m, hm⟩ : ∃ m, m = (lo + hi) / 2 := ⟨_, rfl⟩
      obtain ⟨hm1, hm2, k5, k6, k1, k2⟩ := mid_n h1 hh hm
      obtain ⟨k3, k4⟩ := mid_p hm (show hi - lo ≤ 2 ^ d * 2 from h3)
      have hb1 : (m - lo) * N ≤ 60 := Nat.le_trans (Nat.mul_le_mul_right _ k1) h4
      have hb2 : (hi - m) * N ≤ 60 := Nat.le_trans (Nat.mul_le_mul_right _ k2) h4
      have hsp := seg_split (N := N) (ds := ds) (lo := lo) (i := m - lo) (j := hi - m) (k6.symm ▸ Nat.le_trans (Nat.le_of_lt hm2) h2)
      rw [k5, k6] at hsp
      have p2 := seg_nonneg (N := N) (lo := m) (k := hi - m) h0
      obtain ⟨b1, b2⟩ := d2_bnd hsp (seg_nonneg (N := N) (lo := lo) (k := m - lo) h0) p2 (Int.pow_pos (by decide)) h5
      have l1 := le100 (Nat.le_trans (Nat.le_of_lt h1) h2) hl
      have l2 := le100 h2 hl
      rw [d2Sim, if_neg (one_ne hh)]
      simp only [mid_eq, ← hm, mid_s N hm1, Int.toNat_natCast]
      rw [if_pos ⟨Int.natCast_nonneg _, Int.ofNat_le.mpr hb1, l1.1, l1.2, l2.1, l2.2⟩, ih m hi hm2 h2 k4 hb2 b1]
      dsimp only
      rw [if_pos ⟨p2, b1⟩, ih lo m hm1 (Nat.le_trans (Nat.le_of_lt hm2) h2) k3 hb1 b2]
      dsimp only
      rw [hsp, Nat.mul_comm (m - lo) N, Int.mul_comm, Int.add_comm]
theorem bits_pos {b : Int} (hb : 1 ≤ b) : 1 ≤ Builtin.Int.intBits b := by
  rcases Nat.eq_zero_or_pos (Builtin.Int.intBits b) with e | e
  · have := intBits_le_iff.mp (Nat.le_of_eq e)
    rw [Nat.pow_zero] at this; omega
  · exact e
theorem vl_zero {N : Nat} : ∀ k, vl N (List.replicate k 0) = 0
  | 0 => rfl
  | k + 1 => by rw [List.replicate_succ, vl, vl_zero k, Int.mul_zero]; rfl
theorem rep_get {k i : Nat} : (List.replicate k (0 : Int)).getD i 0 = 0 := by rw [List.getD_eq_getElem?_getD, List.getElem?_replicate]; split <;> rfl
theorem dig_cnt {B N : Nat} (hN : 1 ≤ N) (hN1 : N ≤ 21) (hB : B ≤ 20) : (((B : Nat) : Int) + (N : Int) - 1).fdiv (N : Int) = (((B + N - 1) / N : Nat) : Int) ∧ (B + N - 1) / N ≤ 20 ∧ (B + N - 1) / N * N ≤ 60 := by
  have hKN : (B + N - 1) / N * N ≤ B + N - 1 := Nat.div_mul_le_self _ _
  refine ⟨?_, ?_, by omega⟩
  · rw [Int.fdiv_eq_ediv_of_nonneg _ (Int.natCast_nonneg _), Int.natCast_ediv]
    congr 1; omega
  · generalize (B + N - 1) / N = K at hKN
    rcases Nat.lt_or_ge 20 K with h | h
    · have h1 : 21 * N ≤ K * N := Nat.mul_le_mul_right _ h
      omega
    · exact h
theorem i2d_ok {a : Int} {N : Nat} (ha : 0 ≤ a) (ha1 : a < 1048576) (hN : 1 ≤ N) (hN1 : N ≤ 21) : ∃ ds, i2d a (N : Int) = some ds ∧ ds.length ≤ 20 ∧ ds.length * N ≤ 60 ∧ Figs ds ∧ vl N ds = a := by
  have hB : Builtin.Int.intBits a ≤ 20 := intBits_le_iff.mpr (by have : (2 : Nat) ^ 20 = 1048576 := (by decide); omega)
  obtain ⟨c1, c2, c3⟩ := dig_cnt hN hN1 hB
  have hdg : dgN a (N : Int) = (Builtin.Int.intBits a + N - 1) / N := by unfold dgN; rw [c1, Int.toNat_natCast]
  have hrep : Figs (List.replicate ((Builtin.Int.intBits a + N - 1) / N) 0) := fun i => by rw [rep_get]; decide
  unfold i2d
  rw [c1, if_pos ⟨ha, ha1, Int.ofNat_le.mpr hN, Int.ofNat_le.mpr (Nat.le_trans hN1 (by decide)), Int.natCast_nonneg _, Int.ofNat_le.mpr c2⟩, hdg]
  by_cases h : a = 0
  · rw [if_pos h]; exact ⟨_, rfl, by rw [List.length_replicate]; exact c2, by rw [List.length_replicate]; exact c3, hrep, by rw [vl_zero, h]⟩
  · rw [if_neg h]
    have hK0 : 0 < (Builtin.Int.intBits a + N - 1) / N := Nat.div_pos (by have := bits_pos (b := a) (by omega); clear c1 c2 c3 hrep hdg; omega) hN
    generalize (Builtin.Int.intBits a + N - 1) / N = K at *
    obtain ⟨ds, e1, e2, e3, e4, e5⟩ := in_ok N 9 a 0 K (List.replicate K 0) hK0 (Nat.le_of_eq (List.length_replicate ..).symm) (by rw [List.length_replicate]; exact c2) (Nat.le_trans c2 (by decide)) c3 ha ha1 (fun i _ _ => rep_get) hrep
    rw [List.length_replicate] at e2
    refine ⟨ds, e1, e2.symm ▸ c2, e2.symm ▸ c3, e4, ?_⟩
    rw [e5, vl_zero, Nat.mul_zero, Int.pow_zero, Int.zero_add, Int.mul_one]
theorem d2i_ok {Q : List Int} {N : Nat} (h0 : ∀ q ∈ Q, 0 ≤ q) (hl : Q.length ≤ 20) (hs : Q.length * N ≤ 60) (hN : 1 ≤ N) (hN1 : N ≤ 21) (hv : vl N Q < 1048576) : d2i Q (N : Int) = some (vl N Q) := by
  unfold d2i
  rw [if_pos ⟨Int.ofNat_le.mpr hN, Int.ofNat_le.mpr (Nat.le_trans hN1 (by decide)), Nat.le_trans hl (by decide)⟩]
  by_cases h : Q.length = 0
  · rw [if_pos h, List.eq_nil_of_length_eq_zero h]; rfl
  · rw [if_neg h]
    have hseg : seg N Q 0 (Q.length - 0) = vl N Q := by unfold seg; rw [List.drop_zero, Nat.sub_zero, List.take_length]
    have := d2_ok N Q hl h0 9 0 Q.length (Nat.pos_of_ne_zero h) (Nat.le_refl _) (Nat.le_trans hl (by decide)) hs (by rw [hseg]; exact hv)
    rw [hseg] at this
    exact this
theorem figs_mem {ds : List Int} (h : Figs ds) : ∀ d ∈ ds, 0 ≤ d ∧ d < 1048576 := by
  intro d hd
  obtain ⟨i, hi, e⟩ := List.getElem_of_mem hd
  have := h i
  rw [List.getD_eq_getElem?_getD, List.getElem?_eq_getElem hi, e] at this
  exact this
theorem div_of {a b v r : Int} (hb : 1 ≤ b) (h3 : 0 ≤ r) (h4 : r < b) (h6 : a = v * b + r) : a.fdiv b = v ∧ a.fmod b = r := by
  have hb0 : (0 : Int) < b := hb
  have e1 : a.fdiv b = v := by
    rw [Int.fdiv_eq_ediv_of_nonneg _ (Int.le_of_lt hb0)]
    exact (Int.ediv_eq_iff_of_pos hb0).mpr ⟨by omega, by omega⟩
  have e2 := Int.mul_fdiv_add_fmod a b
  rw [e1, Int.mul_comm] at e2
  exact ⟨e1, by omega⟩
theorem dm_ok {a b : Int} (ha : 0 ≤ a) (ha1 : a < 1048576) (hb : 1 ≤ b) (hb1 : b ≤ 1048576) : dmS a b = some (a.fdiv b, a.fmod b) := by
  have hN1 : Builtin.Int.intBits b ≤ 21 := intBits_le_iff.mpr (by have : (2 : Nat) ^ 21 = 2097152 := (by decide); omega)
  have hN0 := bits_pos hb
  obtain ⟨ds, i1, i2, i3, i4, i5⟩ := i2d_ok ha ha1 hN0 hN1
  unfold dmS
  rw [i1]
  dsimp only
  rw [if_pos ⟨Nat.le_trans i2 (by decide), Nat.le_trans hN1 (by decide), ha, hb⟩]
  generalize Builtin.Int.intBits b = N at *
  obtain ⟨Q, r, q1, q2, q3, q4, q5, q6⟩ := dv_ok hb hb1 (Nat.le_trans hN1 (by decide)) ds.reverse 0 [] (Int.le_refl 0) hb fun d hd => figs_mem i4 d (List.mem_reverse.mp hd)
  rw [tv_rev, i5] at q6
  rw [List.length_reverse] at q2
  rw [show tv N 0 Q = vl N Q.reverse by rw [← tv_rev, List.reverse_reverse]] at q6
  have hlQ : Q.reverse.length = ds.length := by rw [List.length_reverse, q2]
  have h5' : ∀ q ∈ Q.reverse, 0 ≤ q := fun q hq => q5 q (List.mem_reverse.mp hq)
  have hle : vl N Q.reverse < 1048576 := by
    have := Int.mul_le_mul_of_nonneg_left hb (vl_nonneg (N := N) h5')
    rw [Int.mul_one] at this
    clear i1 i4 q1 q5 h5'; omega
  rw [q1]
  dsimp only
  rw [List.nil_append, d2i_ok h5' (hlQ ▸ i2) (hlQ ▸ i3) hN0 hN1 hle]
  dsimp only
  rw [(div_of hb q3 q4 q6).1, (div_of hb q3 q4 q6).2]
end
section
noncomputable abbrev nI (l : List Nat) : List Int := l.map fun (n : Nat) => (n : Int)
theorem nI_getD {l : List Nat} {i : Nat} : (nI l).getD i 0 = ((l.getD i 0 : Nat) : Int) := by
  rw [List.getD_eq_getElem?_getD, List.getD_eq_getElem?_getD, List.getElem?_map]
  cases l[i]? <;> rfl
/-- how many of the list are at most x -/
noncomputable def plN : List Nat → Nat → Nat
  | [], _ => 0
  | b :: bs, x => bif Nat.ble b x then plN bs x + 1 else 0
/-- the bisection answers so for 1 to k -/
noncomputable def plAll (bs : List Nat) : Nat → Bool
  | 0 => true
  | k + 1 => (match bsR (nI bs) ((k + 1 : Nat) : Int) (nI bs).length 0 (nI bs).length with
    | .ofNat p => Nat.beq p (plN bs (k + 1)) && Nat.ble 1 p && Nat.ble p bs.length && Nat.ble 1 (bs.getD (p - 1) 0) && Nat.ble (bs.getD (p - 1) 0) 1048576
    | _ => false) && plAll bs k
theorem plAll_at {bs : List Nat} : ∀ {k : Nat}, plAll bs k = true → ∀ x, 1 ≤ x → x ≤ k → bsR (nI bs) (x : Int) (nI bs).length 0 (nI bs).length = ((plN bs x : Nat) : Int) ∧ 1 ≤ plN bs x ∧ plN bs x ≤ bs.length ∧ 1 ≤ bs.getD (plN bs x - 1) 0 ∧ bs.getD (plN bs x - 1) 0 ≤ 1048576
  | 0, _, x, h1, h2 => by omega
  | k + 1, h, x, h1, h2 => by
    rw [plAll, Bool.and_eq_true] at h
    by_cases e : x = k + 1
    · subst e
      have h := h.1
      split at h
      · rename_i p hp
        simp only [Bool.and_eq_true, Nat.beq_eq, Nat.ble_eq] at h
        obtain ⟨⟨⟨⟨rfl, h2⟩, h3⟩, h4⟩, h5⟩ := h
        exact ⟨hp, h2, h3, h4, h5⟩
      · cases h
    · exact plAll_at h.2 x h1 (by omega)
/-- the figures, in plain numbers -/
noncomputable def fgN (bs : List Nat) : Nat → Nat → List Nat → Option (List Nat)
  | 0, _, _ => none
  | k + 1, x, fs => match x with
    | 0 => some fs
    | y + 1 => match plN bs (y + 1) with
      | 0 => none
      | p + 1 => fgN bs k ((y + 1) % bs.getD p 0) (fs.set p ((y + 1) / bs.getD p 0))
theorem fgN_ok {bs : List Nat} (hb : plAll bs 500 = true) : ∀ {k x : Nat} {fs fs' : List Nat}, x ≤ 500 → fs.length = bs.length → fgN bs k x fs = some fs' → fgSim (nI bs) k (x : Int) (nI fs) = some (nI fs') ∧ fs'.length = bs.length
  | 0, _, _, _, _, _, h => by simp [fgN] at h
  | k + 1, 0, fs, fs', _, hl, h => by
    rw [fgN] at h
    cases h
    exact ⟨by rw [fgSim, if_neg (by omega)], hl⟩
  | k + 1, y + 1, fs, fs', hx, hl, h => by
    obtain ⟨h1, h2, h3, h4, h5⟩ := plAll_at hb (y + 1) (by omega) hx
    rw [fgN] at h
    split at h
    · cases h
    · rename_i p hp
      rw [hp] at h1 h2 h3 h4 h5
      rw [Nat.succ_sub_one] at h4 h5
      have hm : (y + 1) % bs.getD p 0 ≤ 500 := Nat.le_trans (Nat.mod_le _ _) hx
      obtain ⟨g1, g2⟩ := fgN_ok hb hm (by rw [List.length_set, hl]) h
      refine ⟨?_, g2⟩
      have hp1 : ((p.succ : Nat) : Int) - 1 = (p : Int) := by omega
      have hlen : (nI bs).length = bs.length := List.length_map ..
      have hlen2 : (nI fs).length = bs.length := by rw [← hl]; exact List.length_map ..
      rw [fgSim, if_pos (by omega), h1, hp1, if_pos (by rw [hlen, hlen2]; omega), Int.toNat_natCast, nI_getD, dm_ok (by omega) (by omega) (by omega) (by omega)]
      dsimp only
      rw [Int.fmod_eq_emod_of_nonneg _ (Int.natCast_nonneg _), Int.fdiv_eq_ediv_of_nonneg _ (Int.natCast_nonneg _), ← Int.natCast_emod, ← Int.natCast_ediv]
      have hset (v : Nat) : nI (fs.set p v) = (nI fs).set p (v : Int) := List.map_set ..
      rw [hset] at g1
      exact g1
noncomputable def dotP : List Nat → List Nat → Nat
  | a :: r, b :: q => a * b + dotP r q
  | _, _ => 0
theorem dot_sum : ∀ (k : Nat) (xs ys : List Nat), xs.length ≤ k ∨ ys.length ≤ k → ((List.range k).map fun i => (((xs.getD i 0 : Nat) : Int) * ((ys.getD i 0 : Nat) : Int))).sum = ((dotP xs ys : Nat) : Int)
  | 0, xs, ys, h => by
    rcases h with h | h
    · cases List.eq_nil_of_length_eq_zero (Nat.le_zero.mp h); rfl
    · cases List.eq_nil_of_length_eq_zero (Nat.le_zero.mp h); cases xs <;> rfl
  | k + 1, [], ys, _ => by
    have := dot_sum k [] ys (.inl (Nat.zero_le _))
    rw [List.range_succ, List.map_append, List.sum_append, this]; simp [dotP]
  | k + 1, a :: r, [], _ => by
    have := dot_sum k (a :: r) [] (.inr (Nat.zero_le _))
    rw [List.range_succ, List.map_append, List.sum_append, this]; simp [dotP]
  | k + 1, a :: r, b :: q, h => by
    have ih := dot_sum k r q (by simp only [List.length_cons] at h; omega)
    rw [List.range_succ_eq_map, List.map_cons, List.sum_cons, List.map_map, dotP, Int.natCast_add, Int.natCast_mul, ← ih]
    rfl
theorem pt_dot {bs fs : List Nat} {m n : Int} (hl : fs.length = bs.length) : ptF (nI bs) (nI fs) m n = if n.fmod 2 = 0 then (m, ((dotP fs bs.tail : Nat) : Int)) else (((dotP fs.tail bs : Nat) : Int), m) := by
  have hlen : (nI bs).length = bs.length := List.length_map ..
  have e : (((nI bs).length : Int) - 1 - 0).toNat = bs.length - 1 := by rw [hlen]; omega
  have t (l : List Nat) (i : Nat) : l.tail.getD i 0 = l.getD (i + 1) 0 := by cases l <;> rfl
  unfold ptF
  rw [e]
  congr 1
  · rw [← dot_sum (bs.length - 1) fs bs.tail (.inr (by rw [List.length_tail]; omega)), rangeKs, List.map_map]
    congr 3
    funext i
    simp only [Function.comp, Int.zero_add, t]
    rw [show ((i : Int) + 1).toNat = i + 1 by omega, Int.toNat_natCast, nI_getD, nI_getD]
  · rw [← dot_sum (bs.length - 1) fs.tail bs (.inl (by rw [List.length_tail]; omega)), rangeKs, List.map_map]
    congr 3
    funext i
    simp only [Function.comp, Int.zero_add, t]
    rw [show ((i : Int) + 1).toNat = i + 1 by omega, Int.toNat_natCast, nI_getD, nI_getD]
/-- noughts at the head -/
noncomputable def nzN : List Nat → Nat
  | 0 :: r => nzN r + 1
  | _ => 0
theorem nz_ok : ∀ {suf : List Nat} {k : Nat} (pre : List Nat), nzN suf < suf.length → nzN suf < k → nzS (nI (pre ++ suf)) k (pre.length : Int) = some (((pre.length + nzN suf : Nat)) : Int)
  | [], _, _, h, _ => by simp at h
  | a :: r, 0, _, _, h => by omega
  | 0 :: r, k + 1, pre, h1, h2 => by
    have e : nI (pre ++ 0 :: r) = nI ((pre ++ [0]) ++ r) := by rw [List.append_assoc]; rfl
    have ih := nz_ok (suf := r) (k := k) (pre ++ [0]) (by simpa [nzN] using h1) (by simpa [nzN] using h2)
    have hg : (nI (pre ++ 0 :: r)).getD pre.length 0 = 0 := by rw [nI_getD]; simp
    rw [nzS, if_pos (by simp; omega), Int.toNat_natCast, if_pos hg, e]
    rw [List.length_append, List.length_cons, List.length_nil] at ih
    rw [show (pre.length : Int) + 1 = ((pre.length + (0 + 1) : Nat) : Int) by omega, ih, nzN]
    congr 1; omega
  | (a + 1) :: r, k + 1, pre, h1, h2 => by
    have hg : (nI (pre ++ (a + 1) :: r)).getD pre.length 0 = ((a + 1 : Nat) : Int) := by rw [nI_getD]; simp
    rw [nzS, if_pos (by simp; omega), Int.toNat_natCast, if_neg (by rw [hg]; omega)]
    rfl
/-- what _law_told asks, in plain numbers -/
noncomputable def toldN (bs : List Nat) (t m : Nat) : Bool :=
  match fgN bs 20 m (List.replicate bs.length 0) with
  | none => false
  | some fs => Nat.blt (nzN fs) fs.length && Nat.blt (nzN fs) 60 && fs.all (fun x => Nat.ble x 1048576) &&
    (match Nat.beq (nzN fs % 2) 0 with
    | true => askN m (dotP fs bs.tail) t
    | false => askN (dotP fs.tail bs) m t)
where askN (a b t : Nat) : Bool := (match (b - a) / t with
    | 0 => false
    | k + 1 => Nat.beq b (a + t * (k + 1)) && Nat.blt b 2000 && Nat.ble (a * a + t * (k + 1) * a) (t * (k + 1) * (k + 1) + 2 * (k + 1) * a) &&
      Nat.blt (t * (k + 1) * (k + 1) + 2 * (k + 1) * (a + 1)) ((a + 1) * (a + 1) + t * (k + 1) * (a + 1)))
theorem ask_b {a b t K : Nat} (h1 : b = a + t * K) (h2 : b < 2000) (hkt : K ≤ t * K) : (a : Int) < 2000 ∧ (K : Int) < 2000 ∧ 0 ≤ (b : Int) - (a : Int) ∧ (b : Int) - (a : Int) < 1048576 ∧ (b : Int) - (a : Int) = ((t * K : Nat) : Int) := by
  generalize t * K = P at *
  omega
theorem ask_ok {a b t : Nat} (ht : 1 ≤ t) (ht1 : t ≤ 3) (h : toldN.askN a b t = true) : ∃ k : Int, dmS ((b : Int) - (a : Int)) (t : Int) = some (k, 0) ∧ (a : Int) < 2000 ∧ (b : Int) < 2000 ∧ 0 ≤ k ∧ k < 2000 ∧ atRoot (a : Int) (b : Int) k (t : Int) = true := by
  unfold toldN.askN at h
  split at h
  · cases h
  · rename_i k hk
    simp only [Bool.and_eq_true, Nat.beq_eq, Nat.ble_eq, Nat.blt_eq] at h
    obtain ⟨⟨⟨h1, h2⟩, h3⟩, h4⟩ := h
    generalize k + 1 = K at *
    have hkt : K ≤ t * K := by have := Nat.mul_le_mul_right K ht; rw [Nat.one_mul] at this; exact this
    obtain ⟨c1, c2, c3, c4, c5⟩ := ask_b h1 h2 hkt
    refine ⟨(K : Int), ?_, c1, Int.ofNat_lt.mpr h2, Int.natCast_nonneg _, c2, ?_⟩
    · rw [dm_ok c3 c4 (Int.ofNat_le.mpr ht) (Int.ofNat_le.mpr (Nat.le_trans ht1 (by decide))), c5, Int.natCast_mul]
      rw [Int.fdiv_eq_ediv_of_nonneg _ (Int.natCast_nonneg _), Int.fmod_eq_emod_of_nonneg _ (Int.natCast_nonneg _), Int.mul_ediv_cancel_left _ (Int.ne_of_gt (Int.ofNat_lt.mpr ht)), Int.mul_emod_right]
    · unfold atRoot
      have hK0 : 0 < K := by
        rcases Nat.eq_zero_or_pos K with e | e
        · subst e
          exfalso
          simp only [Nat.mul_zero, Nat.zero_mul, Nat.add_zero] at h3 h4
          have : (b - a) / t = 0 := by rw [h1]; simp
          omega
        · exact e
      rw [if_neg (by omega)]
      have g3 : ((a : Int) * a + t * K * a) ≤ (t * K * K + 2 * K * a) := by exact_mod_cast h3
      have g4 : ((t : Int) * K * K + 2 * K * (a + 1)) < ((a + 1) * (a + 1) + t * K * (a + 1)) := by exact_mod_cast h4
      refine decide_eq_true ⟨?_, ?_⟩ <;> grind
noncomputable def toldR (bs : List Nat) (t : Nat) : Nat → Bool
  | 0 => true
  | k + 1 => toldN bs t (k + 1) && toldR bs t k
theorem toldR_at {bs : List Nat} {t : Nat} : ∀ {k : Nat}, toldR bs t k = true → ∀ x, 1 ≤ x → x ≤ k → toldN bs t x = true
  | 0, _, x, h1, h2 => by omega
  | k + 1, h, x, h1, h2 => by
    rw [toldR, Bool.and_eq_true] at h
    by_cases e : x = k + 1
    · rw [e]; exact h.1
    · exact toldR_at h.2 x h1 (by omega)
theorem told_of {bs : List Nat} {t m : Nat} (hg : bgSim (t : Int) 40 [1, (t : Int) + 1] = some (nI bs)) (hb : plAll bs 500 = true) (hr : toldR bs t 500 = true) (ht : 1 ≤ t) (ht1 : t ≤ 3) (h1 : 1 ≤ m) (h2 : m ≤ 500) : ToldOk (t : Int) (m : Int) := by
  have h := toldR_at hr m h1 h2
  unfold toldN at h
  split at h
  · cases h
  · rename_i fs e
    obtain ⟨f1, f2⟩ := fgN_ok hb h2 (by rw [List.length_replicate]) e
    simp only [Bool.and_eq_true, Nat.blt_eq] at h
    obtain ⟨⟨⟨h3, h4⟩, h5⟩, h6⟩ := h
    have hlen : (nI bs).length = bs.length := List.length_map ..
    have hz : zs (nI bs).length = nI (List.replicate bs.length 0) := by
      rw [hlen, zs, Int.toNat_natCast, rep_flat, nI, List.map_replicate]; rfl
    have hn := nz_ok (suf := fs) (k := 60) [] h3 h4
    rw [List.nil_append, List.length_nil, Nat.zero_add] at hn
    have hbit : BitB (nI fs) := by
      refine ⟨fun i => ?_⟩
      rw [nI_getD]
      refine intBits_le_iff.mpr ?_
      rcases Nat.lt_or_ge i fs.length with hi | hi
      · have := List.all_eq_true.mp h5 (fs.getD i 0) (by rw [List.getD_eq_getElem?_getD, List.getElem?_eq_getElem hi]; exact List.getElem_mem hi)
        have := Nat.le_of_ble_eq_true this
        have e2 : (2 : Nat) ^ 64 = 18446744073709551616 := by decide
        omega
      · rw [List.getD_eq_getElem?_getD, List.getElem?_eq_none hi]; decide
    have hpt : ∀ a b, ptF (nI bs) (nI fs) (m : Int) (nzN fs : Int) = (a, b) → PtOk (t : Int) (m : Int) a b := fun a b hab =>
      ⟨nI bs, nI fs, _, hg, by rw [hz]; exact f1, hn, by rw [hlen, ← f2]; exact List.length_map .., hbit, hab⟩
    rw [pt_dot f2] at hpt
    split at h6
    · rename_i hpar
      rw [if_pos (by rw [Int.fmod_eq_emod_of_nonneg _ (by decide)]; have := Nat.eq_of_beq_eq_true hpar; omega)] at hpt
      obtain ⟨k, k1, k2, k3, k4, k5, k6⟩ := ask_ok ht ht1 h6
      exact ⟨_, _, k, hpt _ _ rfl, k1, by omega, k2, by omega, k3, k4, k5, k6⟩
    · rename_i hpar
      rw [if_neg (by rw [Int.fmod_eq_emod_of_nonneg _ (by decide)]; have := Nat.ne_of_beq_eq_false hpar; omega)] at hpt
      obtain ⟨k, k1, k2, k3, k4, k5, k6⟩ := ask_ok ht ht1 h6
      exact ⟨_, _, k, hpt _ _ rfl, k1, by omega, k2, by omega, k3, k4, k5, k6⟩
noncomputable def bs1 : List Nat := [1, 2, 3, 5, 8, 13, 21, 34, 55, 89, 144, 233, 377, 610, 987, 1597, 2584]
noncomputable def bs2 : List Nat := [1, 3, 7, 17, 41, 99, 239, 577, 1393, 3363]
noncomputable def bs3 : List Nat := [1, 4, 13, 43, 142, 469, 1549, 5116]
theorem bg1 : bgSim (1 : Nat) 40 [1, (1 : Nat) + 1] = some (nI bs1) := by decide +kernel
theorem bg2 : bgSim (2 : Nat) 40 [1, (2 : Nat) + 1] = some (nI bs2) := by decide +kernel
theorem bg3 : bgSim (3 : Nat) 40 [1, (3 : Nat) + 1] = some (nI bs3) := by decide +kernel
theorem pl1 : plAll bs1 500 = true := by decide +kernel
theorem pl2 : plAll bs2 500 = true := by decide +kernel
theorem pl3 : plAll bs3 500 = true := by decide +kernel
theorem tr1 : toldR bs1 1 500 = true := by decide +kernel
theorem tr2 : toldR bs2 2 500 = true := by decide +kernel
theorem tr3 : toldR bs3 3 500 = true := by decide +kernel
theorem told_all {t m : Int} (h1 : 1 ≤ t) (h2 : t ≤ 3) (h3 : 1 ≤ m) (h4 : m ≤ 500) : ToldOk t m := by
  obtain ⟨k, rfl⟩ := Int.eq_ofNat_of_zero_le (show 0 ≤ m by omega)
  have ht : t = 1 ∨ t = 2 ∨ t = 3 := by omega
  rcases ht with rfl | rfl | rfl
  · exact told_of bg1 pl1 tr1 (by decide) (by decide) (by omega) (by omega)
  · exact told_of bg2 pl2 tr2 (by decide) (by decide) (by omega) (by omega)
  · exact told_of bg3 pl3 tr3 (by decide) (by decide) (by omega) (by omega)
end
section
structure TbS where
  p : Array Value
  q : Array Value
  tl : Led
noncomputable abbrev tbL (lm : Addr × Obj) (rest : Led) (c : TbS) : Led := lm :: (47, tabObj c.p) :: (54, tabObj c.q) :: (c.tl ++ rest)
structure TbP (rest : Led) (vs : List Value) (c : TbS) : Prop where
  i : ∃ ns, IntsAre vs ns ∧ ∀ n ∈ ns, 0 ≤ n ∧ n ≤ 499
  a : Tab 33 4 (Str.ofString "_int2digits.<locals>.inner") (c.tl ++ rest) c.p
  b : Tab 48 4 (Str.ofString "_digits2int.<locals>.inner") (c.tl ++ rest) c.q
  n : ∀ q ∈ c.tl, @LT.lt Nat _ 54 q.1
theorem TbP.next {rest : Led} {v : Value} {vs : List Value} {c : TbS} (h : TbP rest (v :: vs) c) : ∃ n t, v = .int n t ∧ 0 ≤ n ∧ n ≤ 499 ∧ ∃ ns, IntsAre vs ns ∧ ∀ n ∈ ns, 0 ≤ n ∧ n ≤ 499 := by
  obtain ⟨ns, h1, h2⟩ := h.i
  cases h1 with
  | cons n t h1 => exact ⟨n, t, rfl, (h2 n (.head _)).1, (h2 n (.head _)).2, _, h1, fun m hm => h2 m (.tail _ hm)⟩
theorem tb_perm {α : Type} {I lm a b : α} {r : List α} : ∀ p ∈ a :: b :: I :: lm :: r, p ∈ I :: lm :: a :: b :: r := by
  intro p hp
  simp only [List.mem_cons] at hp ⊢
  rcases hp with h | h | h | h | h <;> simp [h]
theorem tb_big {I : Addr} {it : Obj} {lm : Addr × Obj} {rest : Led} {tl : Led} (h1 : @LT.lt Nat _ 54 I) (h2 : @LT.lt Nat _ 54 lm.1) (h3 : ∀ q ∈ tl, @LT.lt Nat _ 54 q.1) (h4 : ∀ q ∈ rest, @LT.lt Nat _ 54 q.1) : ∀ p ∈ (I, it) :: lm :: (tl ++ rest), @LT.lt Nat _ 54 p.1 := by
  intro p hp
  simp only [List.mem_cons, List.mem_append] at hp
  rcases hp with rfl | rfl | hp | hp
  · exact h1
  · exact h2
  · exact h3 p hp
  · exact h4 p hp
theorem tab_two {line col : Int} {qual : Str} {a b : Addr × Obj} {r : Led} {ps : Array Value} (h : Tab line col qual r ps) : Tab line col qual (a :: b :: r) ps := h.mono fun _ hp => .tail _ (.tail _ hp)
theorem tb_end {h₀ h' : Heap} {L : Addr} {s : Shared} {tk : Nat} {I : Addr} {it : Obj} {lm : Addr × Obj} {rest n9 : Led} {c : TbS} {x : Str} {m₀ m' : Str → Option Value} {vs : List Value} (hl : ∀ w, lm.2.data ≠ .fields w) (hit : ∀ vs', it.data = .fields vs' → ∀ (q : Str) (t : Tok), vs'[1]? ≠ some (.str q t)) (hR : TabsR ((I, it) :: lm :: (c.tl ++ rest)) n9)
    (F : Fr h₀ L h' m') (N : News h₀ L h' n9) (hr : ∀ z, z ≠ x → (∀ p ∈ ([] : List (Str × Value)), z ≠ p.1) → ([] : List Str).contains z = false → m' z = m₀ z) (off : ∀ p ∈ tbL lm rest c, p.1 ≠ I) (hI : @LT.lt Nat _ 54 I) (hn : ∀ q ∈ c.tl, @LT.lt Nat _ 54 q.1) (hi : ∃ ns, IntsAre vs ns ∧ ∀ n ∈ ns, 0 ≤ n ∧ n ≤ 499) :
    FEnd h₀ L s I it [] (tbL lm rest) (fun _ => []) [] x m₀ (TbP rest) vs { s with heap := h', toks := tk } := by
  obtain ⟨tl9, p, q, e, T1, T2, hZ⟩ := hR
  subst e
  have aux : ∀ {line col : Int} {qual : Str} {ps : Array Value}, Tab line col qual (tl9 ++ ((I, it) :: lm :: (c.tl ++ rest))) ps → Tab line col qual ((tl9 ++ c.tl) ++ rest) ps := by
    intro line col qual ps T
    have t1 := tab_drop2 (pre := tl9) (post := lm :: (c.tl ++ rest)) hit T
    have t2 := tab_drop1 (pre := tl9) (post := c.tl ++ rest) hl t1
    rw [List.append_assoc]; exact t2
  refine f_end (c' := TbS.mk p q (tl9 ++ c.tl)) F N (fun _ h => nomatch h) hr ?_ (fun z hz => ?_) (fun z hz => ?_) (fun _ h => nomatch h) ⟨hi, aux T1, aux T2, fun z hz => ?_⟩
  · simp
  · simp only [tbL, List.mem_cons, List.mem_append] at hz ⊢
    rcases hz with h | h | h | (h | h) | h <;> simp [h]
  · simp only [tbL, List.mem_cons, List.mem_append] at hz off
    rcases hz with h | h | h | (h | h) | h
    · exact off z (.inl h)
    · rw [h]; exact Nat.ne_of_lt (Nat.lt_trans (by decide : (47 : Nat) < 54) hI)
    · rw [h]; exact Nat.ne_of_lt hI
    · exact Nat.ne_of_gt (allLt_mem (hZ z h).2 (I, it) (.head _))
    · exact off z (.inr (.inr (.inr (.inl h))))
    · exact off z (.inr (.inr (.inr (.inr h))))
  · rcases List.mem_append.mp hz with h | h
    · exact (hZ z h).1
    · exact hn z h
theorem drawn_ok {vs : List Value} {ns : List Int} (h : IntsAre vs (ns.map (fun k => k.fmod 500) ++ [19, 32])) : ∃ ns, IntsAre vs ns ∧ ∀ n ∈ ns, 0 ≤ n ∧ n ≤ 499 := by
  refine ⟨_, h, fun n hn => ?_⟩
  rcases List.mem_append.mp hn with hn | hn
  · obtain ⟨k, _, rfl⟩ := List.mem_map.mp hn
    have h1 := Int.fmod_nonneg_of_pos k (b := 500) (by decide)
    have h2 := Int.fmod_lt_of_pos k (b := 500) (by decide)
    omega
  · simp only [List.mem_cons, List.not_mem_nil, or_false] at hn
    rcases hn with rfl | rfl <;> decide
theorem loop_tb {prog : Program} {w : World} {A : Around} {E : Value → Shared → Prop} {s : Shared} {env : Env} {h₀ : Heap} {x : Str} {body : List Stmt} {Q : Flow → Shared → Prop} {ax : Addr} {vs : List Value} {n : Nat} {m₀ : Str → Option Value} {rest : Led}
    (hh : A.handled = none) (F : Fr h₀ env.locals s.heap m₀) (N : News h₀ env.locals s.heap ((ax, listOf vs.toArray n) :: (47, tabObj #[]) :: (54, tabObj #[]) :: ([] ++ rest))) (hdr : ∃ ns, IntsAre vs ns ∧ ∀ n ∈ ns, 0 ≤ n ∧ n ≤ 499)
    (turn : ∀ (I : Addr) (v : Value) (r : List Value) (c : TbS) (u : Str → Option Value) (it : Obj) h tk, @LT.lt Nat _ 54 I → TbP rest (v :: r) c → (∀ vs', it.data = .fields vs' → ∀ (q : Str) (t : Tok), vs'[1]? ≠ some (.str q t)) → Fr h₀ env.locals h (fun y => if y = x then some v else kstB (fun z => if ([] : List Str).contains z then u z else m₀ z) [] y) → News h₀ env.locals h ((I, it) :: (ax, listOf vs.toArray n) :: (47, tabObj c.p) :: (54, tabObj c.q) :: (c.tl ++ rest)) → (∀ p ∈ tbL (ax, listOf vs.toArray n) rest c, p.1 ≠ I) →
      wpAny (model prog w) A (execs body env) (FPost h₀ env.locals { s with heap := h, toks := tk } I it [] (tbL (ax, listOf vs.toArray n) rest) (fun _ => []) [] x m₀ (TbP rest) Q r) E { s with heap := h, toks := tk })
    (done : ∀ (c : TbS) (u : Str → Option Value) h tk, Fr h₀ env.locals h (fun y => if y = x then u y else kstB (fun z => if ([] : List Str).contains z then u z else m₀ z) [] y) → News h₀ env.locals h ((ax, listOf vs.toArray n) :: (47, tabObj c.p) :: (54, tabObj c.q) :: (c.tl ++ rest)) → Q .next { s with heap := h, toks := tk }) :
    wpAny (model prog w) A (pyIter (.ref ax)) (fun it s₂ => LoopAtV prog w A h₀ env x body Q E it s₂) E s :=
  loop_list (tbL (ax, listOf vs.toArray n) rest) (fun _ => []) [] (TbP rest) (TbS.mk #[] #[] []) hh F N (fun _ => .head _) (fun _ h => nomatch h) ⟨hdr, .inl rfl, .inl rfl, fun _ h => nomatch h⟩
    (fun I v r c u it h tk hI hp hit F N off => turn I v r c u it h tk (hI (54, tabObj #[]) (.tail _ (.tail _ (.head _)))) hp hit F N off)
    (fun c u h tk _ F N => done c u h tk F N)
end
section
/-- as Con, of a call with one keyword -/
noncomputable abbrev ConK (prog : Program) (w : World) (K : Frag) (mean : ExcName → Option Value) (mg mb : Str → Option Value) (f : Addr) (args : List Value) (kws : List (Str × Value)) (news : Led) (D U : Nat) (R : Value → Led → Prop) : Prop :=
  ∀ (dp un : Nat) (gd : Option (List Code)) (cn : Str) (cs : Scope) (a : Addr) (ccd : Value) (cl : List (Str × Addr)) (outer : List Env) (A₀ : Around) (base h₀ : Heap) (L : Addr) (m : Str → Option Value) (s : Shared) (Q E : Value → Shared → Prop),
    CodeHd base 51 47 → CodeHd base 58 54 → CodeHd base 130 128 → Below A₀ base outer h₀ → Fr h₀ L s.heap m → K.In h₀ → News h₀ L s.heap news → Top topProg loose0 mean mg mb h₀ → cs.kind = .function → dp + D < recursionLimit → un + U < cLine →
    (∀ (r : Value) (news' : Led) (h' : Heap) (tk' : Nat), R r news' → Fr h₀ L h' m → News h₀ L h' news' → Q r { s with heap := h', toks := tk' }) →
    wpAny (model prog w) (ktrTop dp un gd cn cs L a ccd cl outer) (call (.ref f) args kws) Q E s
theorem conk_use {prog : Program} {w : World} {K : Frag} {mean : ExcName → Option Value} {mg mb : Str → Option Value} {f : Addr} {args : List Value} {kws : List (Str × Value)} {news led : Led} {D U : Nat} {R : Value → Led → Prop}
    {dp un : Nat} {gd : Option (List Code)} {cn : Str} {cs : Scope} {a : Addr} {ccd : Value} {cl : List (Str × Addr)} {outer : List Env} {A₀ : Around} {base h₀ : Heap} {L : Addr} {m : Str → Option Value} {s : Shared} {Q E : Value → Shared → Prop}
    (C : ConK prog w K mean mg mb f args kws news D U R) (h1 : CodeHd base 51 47) (h2 : CodeHd base 58 54) (h3 : CodeHd base 130 128) (B : Below A₀ base outer h₀) (F : Fr h₀ L s.heap m) (X : K.In h₀) (N : News h₀ L s.heap led) (T : Top topProg loose0 mean mg mb h₀) (hk : cs.kind = .function) (hd : dp + D < recursionLimit) (hu : un + U < cLine) (hl : ∀ p ∈ news, p ∈ led)
    (ret : ∀ (r : Value) (news' : Led) (h' : Heap) (tk' : Nat), R r news' → Fr h₀ L h' m → News h₀ L h' news' → Q r { s with heap := h', toks := tk' }) :
    wpAny (model prog w) (ktrTop dp un gd cn cs L a ccd cl outer) (call (.ref f) args kws) Q E s :=
  C _ _ _ _ _ _ _ _ _ _ _ _ _ _ _ _ _ h1 h2 h3 B F X (fun p hp => N p (hl p hp)) T hk hd hu ret
/-- what the key does: an int of each item -/
structure KeyOk (prog : Program) (w : World) (K : Frag) (mean : ExcName → Option Value) (mg mb : Str → Option Value) (f : Addr) (led : Led) (ns : List Int) (g : Int → Int) : Prop where
  h : ∀ i t, i ∈ ns → Con prog w K mean mg mb f [.int i t] led 5 100 (fun r news' => (∃ t, r = .int (g i) t) ∧ news' = led)
theorem getD_mem {ns : List Int} {i : Int} (h0 : 0 ≤ i) (h1 : i < (ns.length : Int)) : ns.getD i.toNat 0 ∈ ns := by
  have hi : i.toNat < ns.length := by omega
  rw [List.getD_eq_getElem?_getD, List.getElem?_eq_getElem hi]
  exact List.getElem_mem hi
theorem getD_map {ns : List Int} {g : Int → Int} {i : Int} (h0 : 0 ≤ i) (h1 : i < (ns.length : Int)) : (ns.map g).getD i.toNat 0 = g (ns.getD i.toNat 0) := by
  have hi : i.toNat < ns.length := by omega
  rw [List.getD_eq_getElem?_getD, List.getD_eq_getElem?_getD, List.getElem?_map, List.getElem?_eq_getElem hi]
  rfl
theorem bisect_key_c (w : World) (mean : ExcName → Option Value) (mg mb : Str → Option Value) (l : Addr) (vs : List Value) (ns : List Int) (nn : Nat) (x : Int) (tx : Tok) (news : Led) (f : Addr) (g : Int → Int) (oc : Value) (od : Option Addr) (fd : FuncData) (sl : Array (Option Value)) (hf : (f, (⟨oc, od, .func fd, sl⟩ : Obj)) ∈ news) (hi : IntsAre vs ns) (hlen : ns.length ≤ 1000)
    (hK : KeyOk Challenge.rw_pe0223_01.row.prog w (hd.heap_39 w.params) mean mg mb f ((l, listOf vs.toArray nn) :: news) ns g) :
    ConK Challenge.rw_pe0223_01.row.prog w (hd.heap_39 w.params) mean mg mb 91 [.ref l, .int x tx] [(Str.ofString "key", .ref f)] ((l, listOf vs.toArray nn) :: news) 10 200 (fun r news' => ∃ t, r = .int (bsR (ns.map g) x (ns.map g).length 0 (ns.map g).length) t ∧ news' = ((l, listOf vs.toArray nn) :: news)) := by
  w_top off
  k_with_none
  k_fill
  intro dp un gd cn cs a ccd cl outer A₀ base h₀ L m s Q E hC1 hC2 hC3 B F X N T hk hd hu hret
  have hml : (ns.map g).length = ns.length := List.length_map ..
  refine wpAny_call ?_
  ((k_dflt (refine code_def (by k_asm) (by k_asm) (by k_asm) (by k_asm) (by k_asm) (by exact rfl) (by exact rfl) (by assumption) (by k_is) (by k_is) (by ktr_room) (by (refine kp_binds (by k_in) (by exact fun _ => rfl))) (by exact locs rfl) ?_ (by exact rfl) (by exact rfl) (by exact rfl) (by decide); k_whole; intro zg' zL' zh' zFG' zF' zN' zB' zX' zT'; (try dsimp only); (try k_lift zB'); (try k_fold))))
  k_with "call ref" => (have hm8 := BsP.mid hP1 (by assumption); ((k_dflt (refine Mine.con_use2 (by assumption) (by exact fun _ h => h) (by k_asm) (by k_asm) (by exact Mine.KeyOk.h (by assumption) _ _ (Mine.getD_mem (by omega) (by omega))) (by k_asm) (by k_asm) (by k_asm) (by k_asm) (by k_asm) (by rfl) (by ktr_room) (by ktr_units) ?_); rintro zr8 zn8 zh8 ztk8 ⟨⟨zt8, ze1⟩, ze2⟩ zF8 zN8; subst ze1; subst ze2; (try dsimp only); (try k_fold))))
  k_with "callWith ref" => refine callWith_F (FnAt.of (by k_asm) (List.Mem.tail _ hf)) ?_
  k_with "exec While Compare cons nil" => ((rename Fr _ _ _ _ => lF); (rename News _ _ _ _ => lN); with_unfolding_all refine' w_while (σ := Int × Tok × Int × Tok) (fun _ => (l, listOf vs.toArray nn) :: news) (fun c => [(Str.ofString "lo", Value.int c.1 c.2.1), (Str.ofString "hi", Value.int c.2.2.1 c.2.2.2)]) [Str.ofString "mid"] (fun c => BsP (ns.map g) x (bsR (ns.map g) x (ns.map g).length 0 (ns.map g).length) c.1 c.2.2.1) (fun c => (c.2.2.1 - c.1).toNat) ⟨_, _, _, _⟩ lF lN ?kk ?kn ?kp ?_; (case kk => kst_all); (case kn => exact fun _ h => h); (case kp => (have hst := BsP.start (ns.map g) x; rw [hml] at hst ⊢; exact hst)); clear lF lN; rintro ⟨c1, t1, c2, t2⟩ u9 h9 tk9 hP F9 N9; dsimp only at hP; obtain ⟨hP1, hP2, hP3, hP4⟩ := id hP; (try dsimp only); (try k_fold))
  k_steps
  all_goals first
    | exact hret _ _ _ _ ⟨_, congrArg (fun z => Value.int z _) (BsP.stop (by assumption) (by assumption)), rfl⟩ (by k_asm) (by k_asm)
    | skip
  all_goals (have hm9 := BsP.mid hP1 (by assumption))
  all_goals (have hg9 := getD_map (ns := ns) (g := g) (i := (c1 + c2).fdiv 2) (by omega) (by omega))
  all_goals (refine w_end (c' := ⟨_, _, _, _⟩) (by assumption) (by assumption) (by kst_all) (by ((intro zz zh2 zh3; (try simp only [List.forall_mem_cons, List.not_mem_nil, false_implies, implies_true, and_true, ne_eq] at zh2); (try simp only [List.contains_cons, List.contains_nil, Bool.or_false, Bool.or_eq_false_iff, beq_eq_false_iff_ne, ne_eq] at zh3); first | rfl | (simp only [kstB, zh2, zh3, if_false, List.contains_cons, List.contains_nil, Bool.or_false, Bool.or_eq_true, beq_iff_eq, or_false, false_or, or_self, Bool.false_eq_true, ↓reduceIte]; done) | (simp [kstB, zh2, zh3]; done)))) (fun _ h => h) ?_ ?_)
  · exact BsP.low hP (by assumption) (by rw [hg9]; assumption)
  · dsimp only; omega
  · exact BsP.high hP (by assumption) (by rw [hg9]; assumption)
  · dsimp only; omega
end
section
/-- the lambda that stands in the call at the head of the while, place j of the body of the def at place i of the text -/
noncomputable def lamAt (p : Program) (i j : Nat) : Option (Arguments × Expr × Scope) :=
  match p.main.body.drop i with
  | .FunctionDef _ _ b _ _ _ _ _ _ _ :: _ => (match b.drop j with
    | .While _ (.Assign _ (.Call _ _ [⟨_, .Lambda prm bd sc _, _⟩] _) _ :: _) _ _ :: _ => some (prm, bd, sc)
    | _ => none)
  | _ => none
local macro_rules | `(tactic| walk_at "enter lam") => `(tactic| (k_dflt (refine' kla_code ?k1 ?k2 ?k3 ?k4 ?k5 ?kA ?kF ?kK ?k6 ?k7 ?k8 ?k9 ?kB ?_ ?c2 ?c3 ?c4 ?c5; (case kA => exact rfl); (case kF => exact rfl); (case kK => assumption); (case k1 => k_asm); (case k2 => k_asm); (case k3 => k_asm); (case k4 => k_asm); (case k5 => k_asm); (case k6 => k_mem); (case k7 => exact codeRec_news (by k_asm) (by k_mem) (by assumption) (by assumption)); (case k8 => ktr_room); (case k9 => exact rfl); (case c5 => decide); (case kB => exact locs rfl); (case c2 => exact rfl); (case c3 => exact rfl); (case c4 => exact rfl); k_whole; intro g' L' h' FG' F' N' B' X' T'; (try dsimp only); (try k_lift B'); (try k_fold))))
theorem key_lam (w : World) (mean : ExcName → Option Value) (mg mb : Str → Option Value) (prm : Arguments) (bd : Expr) (sc : Scope) (hb : lamAt Challenge.pw_pe0223_01 20 4 = some (prm, bd, sc)) (f c' c2 kl : Addr) (oc o2 : Obj) (name qual : Str) (pm ctv : Value) (vsc : Array Value) (tq : Tok) (kv : List Value) (ks : List Int) (kc : Nat) (led : Led)
    (hf : (f, kla_obj name qual prm bd sc [(Str.ofString "taken", c2)] pm c' ctv) ∈ led) (hc : (c', oc) ∈ led) (hoc : oc.data = .fields vsc) (hq : vsc[1]? = some (.str qual tq)) (h2 : (c2, o2) ∈ led) (ho2 : o2.data = .cell (some (.ref kl))) (hkl : (kl, listOf kv.toArray kc) ∈ led) (hi : IntsAre kv ks) (hz : ks.length ≤ 1000) (i : Int) (ti : Tok) (h0 : 0 ≤ i) (h1 : i < (ks.length : Int)) :
    Con Challenge.rw_pe0223_01.row.prog w (hd.heap_39 w.params) mean mg mb f [.int i ti] led 5 100 (fun r news' => (∃ t, r = .int (ks.getD i.toNat 0 - i) t) ∧ news' = led) := by
  w_top off
  k_with_none
  k_fill
  cases hb
  intro dp un gd cn cs a ccd cl outer A₀ base h₀ L m s Q E hC1 hC2 hC3 B F X N T hk hd hu hret
  refine wpAny_call ?_
  walk_at "enter lam"
  k_with "subscriptTail Name Name ref int" => (((with_reducible show wpAny _ _ (subscriptTail _ _ (Value.ref _) (Value.int _ _)) _ _ _); (with_unfolding_all refine Mine.item_K (by k_asm) (by k_mem) (by assumption) (by omega) (by omega) (by omega) ?_); intro zt8))
  k_steps
  exact hret _ _ _ _ ⟨⟨_, rfl⟩, rfl⟩ (by k_asm) (by k_asm)
/-- what the making of the lambda leaves: it, its table, and objects of its own -/
theorem lam_both {M : Model} {A : Around} {E : Value → Shared → Prop} {s : Shared} {h₀ : Heap} {L a c P : Addr} {m mg mb : Str → Option Value} {cn : Str} {cs : Scope} {ccd : Value} {cl : List (Str × Addr)} {pre tl news : Led} {p : Program} {loose : List Str} {mean : ExcName → Option Value} {name qual : Str} {params : Arguments} {body : Expr} {scope : Scope} {ps : Array Value} {pos : Pos} {firstLine : Nat} {clos : List (Str × Addr)} {Q : Value → Shared → Prop}
    (F : Fr h₀ L s.heap m) (N : News h₀ L s.heap ((P, tabObj ps) :: (pre ++ (tl ++ news)))) (T : Top p loose mean mg mb h₀) (C : CodeHd h₀ c P) (hcd : ccd = .ref c) (hT : Tab pos.line pos.col qual (tl ++ news) ps) (off : ∀ p ∈ pre ++ (tl ++ news), p.1 ≠ P)
    (hcl : closureFor scope (envX cn cs L a ccd cl) = pure clos)
    (h : ∀ f c' oc vs t ctv h' tk ps' tl', Fr h₀ L h' m → News h₀ L h' ((f, kla_obj name qual params body scope clos ((mg "__name__").getD .none) c' ctv) :: (P, tabObj ps') :: (pre ++ (tl' ++ news))) → (c', oc) ∈ tl' ++ news → oc.data = .fields vs → vs[1]? = some (.str qual t) → Tab pos.line pos.col qual (tl' ++ news) ps' →
      (∀ q ∈ tl, q ∈ tl') → (∀ q ∈ tl', q ∈ tl ∨ (@LT.lt Nat _ P q.1 ∧ ∀ p ∈ pre ++ (tl ++ news), p.1 < q.1)) → (@LT.lt Nat _ P f ∧ ∀ q ∈ pre ++ (tl' ++ news), q.1 < f) → Q (.ref f) { s with heap := h', toks := tk }) :
    wpAny M A (makeFunction name qual params (.expr body) scope (envX cn cs L a ccd cl) [] [] [] pos firstLine) Q E s := by
  rcases hT with rfl | ⟨c, oc, vs, t, rfl, h2, h3, h4⟩
  · refine kla_nest F N T C hcd (UpdF.head off) trivial rfl hcl fun f c' oc vs t ctv h' tk F' N' hd hv l1 l2 => ?_
    refine h f c' oc vs t ctv h' tk _ ((c', oc) :: tl) F' (fun q hq => N' q ?_) (.head _) hd hv (.inr ⟨c', oc, vs, t, rfl, .head _, hd, hv⟩) (fun q hq => .tail _ hq) (fun q hq => ?_) ⟨?_, fun q hq => ?_⟩
    · simp only [List.mem_append, List.mem_cons] at hq ⊢
      rcases hq with hq | hq | hq | (hq | hq) | hq <;> simp [hq]
    · rcases List.mem_cons.mp hq with rfl | hq
      · exact .inr ⟨l1 _ (.head _), fun p hp => l1 p (.tail _ hp)⟩
      · exact .inl hq
    · exact Nat.lt_trans (l1 _ (.head _)) l2
    · simp only [List.mem_append, List.mem_cons] at hq
      rcases hq with hq | (hq | hq) | hq
      · exact Nat.lt_trans (l1 q (.tail _ (List.mem_append_left _ hq))) l2
      · rw [hq]; exact l2
      · exact Nat.lt_trans (l1 q (.tail _ (List.mem_append_right _ (List.mem_append_left _ hq)))) l2
      · exact Nat.lt_trans (l1 q (.tail _ (List.mem_append_right _ (List.mem_append_right _ hq)))) l2
  · refine kla_hit F N T C hcd (.head _) trivial (codeAmong_snoc [] trivial rfl) hcl fun f ctv h' tk F' N' l1 => ?_
    exact h f c oc vs t ctv h' tk _ tl F' N' h2 h3 h4 (.inr ⟨c, oc, vs, t, rfl, h2, h3, h4⟩) (fun q hq => hq) (fun q hq => .inl hq) ⟨l1 _ (.head _), fun q hq => l1 q (.tail _ hq)⟩
end
section
theorem len_P {prog : Program} {w : World} {A : Around} {E : Value → Shared → Prop} {s : Shared} {h₀ : Heap} {L D : Addr} {news : Led} {vs : List Value} {cnt : Nat} {Q : Value → Shared → Prop} (N : News h₀ L s.heap news) (hm : (D, listOf vs.toArray cnt) ∈ news) (hl : vs.length ≤ 1000)
    (h : ∀ t tk, Q (.int (vs.length : Int) t) { s with toks := tk }) : wpAny (model prog w) A (call (.builtin "len") [.ref D]) Q E s :=
  len_list ⟨_, (N _ hm).1, rfl, _, rfl⟩ (by rw [List.size_toArray]; omega) (by rw [List.size_toArray]; exact h _ _)
theorem pick_init (vs : List Value) (v : Value) : kms_pick (vs ++ [v]).toArray.toList none (some (-1)) = vs := by
  unfold kms_pick
  have h1 : kms_lo none (vs ++ [v]).toArray.toList.length = 0 := rfl
  have h2 : kms_hi (some (-1)) (vs ++ [v]).toArray.toList.length = vs.length := by
    simp [kms_hi]
  rw [h1, h2]
  simp
theorem textOf_snoc : ∀ (tr : List (List Nat × List Nat)) (l m e k : List Nat), textOf (tr ++ [(l ++ m, e)]) k = textOf tr l ++ m ++ e ++ k
  | [], l, m, e, k => by simp [textOf]
  | p :: tr, l, m, e, k => by
    show p.1 ++ (p.2 ++ textOf (tr ++ [(l ++ m, e)]) k) = p.1 ++ (p.2 ++ textOf tr l) ++ m ++ e ++ k
    rw [textOf_snoc tr l m e k]
    simp
theorem textOf_len : ∀ (tr : List (List Nat × List Nat)) (l : List Nat), (∀ p ∈ tr, EndOk p.2) → ((textOf tr l).length : Int) ≤ (tr.map fun q => (q.1.length : Int)).sum + 2 * tr.length + l.length
  | [], l, _ => by simp [textOf]
  | p :: tr, l, h => by
    have ih := textOf_len tr l fun q hq => h q (.tail _ hq)
    have he : p.2.length ≤ 2 := by rcases h p (.head _) with e | e | e <;> rw [e] <;> simp
    show ((p.1 ++ (p.2 ++ textOf tr l)).length : Int) ≤ _
    simp only [List.length_append, List.map_cons, List.sum_cons, List.length_cons]
    omega
theorem strOf_app (a b : List Nat) : strOf a ++ strOf b = strOf (a ++ b) := by
  show (⟨a.toArray ++ b.toArray⟩ : Str) = ⟨(a ++ b).toArray⟩
  rw [List.append_toArray]
theorem addSS {prog : Program} {w : World} {A : Around} {E : Value → Shared → Prop} {s : Shared} {a b : List Nat} {t u : Tok} {Q : Value → Shared → Prop} (hz : a.length + b.length ≤ 100000) (h : ∀ t' tk, Q (.str (strOf (a ++ b)) t') { s with toks := tk }) :
    wpAny (model prog w) A (binaryOp .Add (.str (strOf a) t) (.str (strOf b) u)) Q E s := by
  refine PyProof.Rows.add_str (fun t' tk => ?_) ?_
  · rw [strOf_app]; exact h t' tk
  · rw [sizeLine_eq]
    show a.toArray.size + b.toArray.size ≤ _
    rw [List.size_toArray, List.size_toArray]; omega
theorem addSL {prog : Program} {w : World} {A : Around} {E : Value → Shared → Prop} {s : Shared} {a : List Nat} {y : Str} (b : List Nat) {t u : Tok} {Q : Value → Shared → Prop} (hy : y = strOf b) (hz : a.length + b.length ≤ 100000) (h : ∀ t' tk, Q (.str (strOf (a ++ b)) t') { s with toks := tk }) :
    wpAny (model prog w) A (binaryOp .Add (.str (strOf a) t) (.str y u)) Q E s := by
  subst hy
  exact addSS hz h
theorem more_eq (i n : Int) (h0 : 0 ≤ i) (h1 : i < 4) : ∃ c, (c ≠ 10 ∧ c ≠ 13 ∧ c < 128) ∧ Txt.mul (Txt.item (Str.ofString "a.-\t") i) n = strOf (List.replicate n.toNat c) := by
  have key : ∀ c : Nat, Txt.mul ⟨#[c]⟩ n = strOf (List.replicate n.toNat c) := by
    intro c
    have fold : ∀ (k : Nat) (acc : Array Nat), (List.replicate k #[c]).foldl (· ++ ·) acc = acc ++ (List.replicate k c).toArray := by
      intro k
      induction k with
      | zero => intro acc; simp
      | succ k ih =>
        intro acc
        rw [List.replicate_succ, List.foldl_cons, ih, List.replicate_succ]
        apply Array.toList_inj.mp
        simp
    unfold Txt.mul
    split
    · rw [show n.toNat = 0 by omega]; rfl
    · split
      · rename_i hn hc
        have : n = 1 := by
          simp only [Bool.or_eq_true, beq_iff_eq, Str.length] at hc
          rcases hc with hc | hc
          · exact hc
          · simp at hc
        subst this
        rfl
      · have := fold n.toNat #[]
        unfold strOf
        rw [this]
        congr 1
        simp
  have e : i = 0 ∨ i = 1 ∨ i = 2 ∨ i = 3 := by omega
  rcases e with rfl | rfl | rfl | rfl
  · exact ⟨97, by decide, by rw [show Txt.item (Str.ofString "a.-\t") 0 = ⟨#[97]⟩ by decide +kernel]; exact key 97⟩
  · exact ⟨46, by decide, by rw [show Txt.item (Str.ofString "a.-\t") 1 = ⟨#[46]⟩ by decide +kernel]; exact key 46⟩
  · exact ⟨45, by decide, by rw [show Txt.item (Str.ofString "a.-\t") 2 = ⟨#[45]⟩ by decide +kernel]; exact key 45⟩
  · exact ⟨9, by decide, by rw [show Txt.item (Str.ofString "a.-\t") 3 = ⟨#[9]⟩ by decide +kernel]; exact key 9⟩
end
section
inductive Rel2 (R : List Nat → Value → Prop) : List (List Nat) → List Value → Prop
  | nil : Rel2 R [] []
  | cons {x y xs ys} (h : R x y) (r : Rel2 R xs ys) : Rel2 R (x :: xs) (y :: ys)
theorem Rel2.snoc {R : List Nat → Value → Prop} {x : List Nat} {y : Value} (h : R x y) : ∀ {xs : List (List Nat)} {ys : List Value}, Rel2 R xs ys → Rel2 R (xs ++ [x]) (ys ++ [y])
  | _, _, .nil => .cons h .nil
  | _, _, .cons g r => .cons g (Rel2.snoc h r)
theorem Rel2.strs {g : List Nat → List Nat} : ∀ {xs : List (List Nat)} {ys : List Value}, Rel2 (fun r y => ∃ t, y = .str (strOf (g r)) t) xs ys → StrsAre ys (xs.map fun r => strOf (g r))
  | _, _, .nil => .nil
  | _, _, .cons ⟨t, e⟩ r => by rw [e]; exact .cons _ t r.strs
theorem Rel2.ints {g : List Nat → Int} : ∀ {xs : List (List Nat)} {ys : List Value}, Rel2 (fun r y => ∃ t, y = .int (g r) t) xs ys → IntsAre ys (xs.map g)
  | _, _, .nil => .nil
  | _, _, .cons ⟨t, e⟩ r => by rw [e]; exact .cons _ t r.ints
section
variable {prog : Program} {w : World} {A : Around} {h₀ : Heap} {L : Addr} {m : Str → Option Value} {env : Env} {elt : Expr} {x : Str} {scope : Scope} {cl : List (Str × Addr)} {s : Shared} {S : Led → Prop} {Fin : List Value → Led → Prop} {news : Led}
theorem cs_strs {vs : List Value} {xs : List (List Nat)} (R : List Nat → Value → Prop) (hs : StrsAre vs (xs.map strOf))
    (turn : ∀ r t I oI C oC D m₂ ys h tk (E' : Value → Shared → Prop), r ∈ xs → LCg.NsObj oC m₂ → m₂ x = some (.str (strOf r) t) → Fr h₀ L h m → News h₀ L h ((I, oI) :: (C, oC) :: (D, LCg.lst ys) :: news) → LCg.Off3 I C D news → ((@Ne Nat I C) ∧ (@Ne Nat I D) ∧ (@Ne Nat C D)) → S news →
      wpAny (model prog w) A (eval elt (compEnvC scope cl C env)) (LCg.CompEnd h₀ L m { s with heap := h, toks := tk } I oI C oC D (LCg.lst ys) S (fun y news' => news' = news ∧ R r y)) E' { s with heap := h, toks := tk })
    (hS : S news) (fin : ∀ ys, Rel2 R xs ys → Fin ys news) : LCg.CompRest prog w A h₀ L m env elt x scope cl s S (fun i v => vs.toArray[i]? = some v) Fin vs.toArray.size 0 [] news := by
  have hn : vs.length = xs.length := by rw [StrsAre.len_eq hs, List.length_map]
  rw [List.size_toArray, hn]
  have key : ∀ (j i : Nat) (ys : List Value), i + j = xs.length → Rel2 R (xs.take i) ys → LCg.CompRest prog w A h₀ L m env elt x scope cl s S (fun i v => vs.toArray[i]? = some v) Fin j i ys news := by
    intro j
    induction j with
    | zero =>
      intro i ys hi hy
      have e : i = xs.length := by omega
      subst e
      rw [List.take_length] at hy
      exact LCg.CompRest.zero (fin ys hy)
    | succ j ih =>
      intro i ys hi hy
      refine LCg.CompRest.succ ?_
      intro v I oI C oC D m₂ h tk E' hv hC hx F N off ne
      obtain ⟨y, t, hv', hk⟩ := StrsAre.item hs i v (by simpa using hv)
      rw [List.getElem?_map] at hk
      obtain ⟨r, hr, hry⟩ := Option.map_eq_some_iff.mp hk
      subst hry
      rw [hv'] at hx
      refine wpAny_mono (turn r t I oI C oC D m₂ ys h tk E' (List.mem_of_getElem? hr) hC hx F N off ne hS) (fun y s₂ hq => ?_) fun _ _ e => e
      obtain ⟨h', tk', nw, e, F', N', off', hS', hn', hy'⟩ := hq
      subst hn'
      refine ⟨h', tk', nw, e, F', N', off', hS', ih (i + 1) _ (by omega) ?_⟩
      rw [List.take_add_one, hr]
      exact Rel2.snoc hy' hy
  exact key xs.length 0 [] (by omega) (by rw [List.take_zero]; exact .nil)
theorem cs_end {P : Value → Prop} {I C D : Addr} {oI oC : Obj} {ys : List Value} {s₁ : Shared} {h' : Heap} {tk : Nat} {y : Value} (F : Fr h₀ L h' m) (N : News h₀ L h' ((I, oI) :: (C, oC) :: (D, LCg.lst ys) :: news)) (off : LCg.Off3 I C D news) (hS : S news) (h : P y) :
    LCg.CompEnd h₀ L m s₁ I oI C oC D (LCg.lst ys) S (fun y news' => news' = news ∧ P y) y { s₁ with heap := h', toks := tk } := ⟨h', tk, news, rfl, F, N, off, hS, rfl, h⟩
end
noncomputable def Small (r : List Nat) : Prop := ∀ x ∈ r, x < 128
theorem strOk_small {r : List Nat} (h : Small r) : (PyData.str (strOf r)).canLay0 = true := by
  rw [PyData.canLay0]
  unfold PyData.strOk strOf
  simp only [List.all_toArray]
  exact List.all_eq_true.mpr fun x hx => decide_eq_true (Nat.lt_trans (h x hx) (by decide))
theorem lay_strs : ∀ {xs : List (List Nat)}, (∀ r ∈ xs, Small r) → PyData.canLayAll0 ((xs.map strOf).map PyData.str) = true
  | [], _ => rfl
  | x :: xs, h => by
    rw [List.map_cons, List.map_cons, PyData.canLayAll0, strOk_small (h x (.head _)), lay_strs fun r hr => h r (.tail _ hr)]
    rfl
theorem depth_strs : ∀ (xs : List Str), PyData.depthAll (xs.map PyData.str) = 0
  | [] => rfl
  | _ :: r => by simp [PyData.depthAll, PyData.depth, depth_strs r]
theorem ne_strs {prog : Program} {w : World} {A : Around} {E : Value → Shared → Prop} {s : Shared} {h₀ : Heap} {L a b : Addr} {news : Led} {vs us : List Value} {xs : List (List Nat)} {n k : Nat} {Q : Value → Shared → Prop} (N : News h₀ L s.heap news) (h1 : (a, listOf vs.toArray n) ∈ news) (h2 : (b, listOf us.toArray k) ∈ news) (i1 : StrsAre vs (xs.map strOf)) (i2 : StrsAre us (xs.map strOf)) (hs : ∀ r ∈ xs, Small r) (hu : A.units + 64 < cLine) (h : Q (.bool false) s) :
    wpAny (model prog w) A (compareOp .NotEq (.ref a) (.ref b)) Q E s := by
  have hl : SeqAt.shaped (.list ((xs.map strOf).map PyData.str)) = true := by
    have e1 := lay_strs hs
    have e2 := depth_strs (xs.map strOf)
    unfold SeqAt.shaped
    rw [PyData.canLay0, e1, PyData.depth, e2]
    rfl
  refine ne_dataH (reads_newData ⟨_, (N _ h1).1, rfl, _, rfl⟩ i1.carried) (reads_newData ⟨_, (N _ h2).1, rfl, _, rfl⟩ i2.carried) hl hl hu ?_
  rw [SeqAt.eqv_refl _ (SeqAt.canLay_of_shaped hl)]
  exact h
theorem item_end {prog : Program} {w : World} {A : Around} {E : Value → Shared → Prop} {s : Shared} {h₀ : Heap} {L D : Addr} {news : Led} {t1 t2 t3 u : Tok} {i : Int} {value slice : Expr} {Q : Value → Shared → Prop} (N : News h₀ L s.heap news) (hm : (D, ({ cls := .type "tuple", data := .seq #[.str (Str.ofString "\n") t1, .str (Str.ofString "\r") t2, .str (Str.ofString "\r\n") t3] } : Obj)) ∈ news) (h0 : 0 ≤ i) (h1 : i < 3)
    (h : ∀ e t, EndOk e → Q (.str (strOf e) t) s) (hs : subscripted slice false (.ref D) (.int i u) = operate [.ref D, .int i u] (getItem (.ref D) (.int i u)) := by with_unfolding_all rfl) :
    wpAny (model prog w) A (subscriptTail value slice (.ref D) (.int i u)) Q E s := by
  have e1 : Str.ofString "\n" = strOf [10] := by decide +kernel
  have e2 : Str.ofString "\r" = strOf [13] := by decide +kernel
  have e3 : Str.ofString "\r\n" = strOf [13, 10] := by decide +kernel
  rw [e1, e2, e3] at hm
  have hT : IsTup s.heap D [Value.str (strOf [10]) t1, .str (strOf [13]) t2, .str (strOf [13, 10]) t3].toArray := ⟨_, (N _ hm).1, rfl, _, rfl⟩
  have e : i = 0 ∨ i = 1 ∨ i = 2 := by omega
  rcases e with rfl | rfl | rfl
  · exact item_tupleT hT (by decide) (by decide) (j := 0) rfl rfl (h _ _ (.inl rfl)) hs
  · exact item_tupleT hT (by decide) (by decide) (j := 1) rfl rfl (h _ _ (.inr (.inl rfl))) hs
  · exact item_tupleT hT (by decide) (by decide) (j := 2) rfl rfl (h _ _ (.inr (.inr rfl))) hs
theorem slice_init {prog : Program} {w : World} {A : Around} {E : Value → Shared → Prop} {s : Shared} {h₀ : Heap} {L l : Addr} {m : Str → Option Value} {news : Led} {value slice : Expr} {vs : List Value} {v vl vu : Value} {cnt : Nat} {Q : Value → Shared → Prop} (F : Fr h₀ L s.heap m) (N : News h₀ L s.heap news) (hm : (l, listOf (vs ++ [v]).toArray cnt) ∈ news) (pl : IsPart vl none) (pu : IsPart vu (some (-1))) (hl : vs.length ≤ 1000)
    (h : ∀ D h', Fr h₀ L h' m → News h₀ L h' ((D, listOf vs.toArray 0) :: news) → (∀ p ∈ news, p.1 < D) → Q (.ref D) { s with heap := h' })
    (hs : subscripted slice false (.ref l) (.ref s.heap.objs.size) = operate [.ref s.heap.objs.size, .ref l] (getItem (.ref l) (.ref s.heap.objs.size))) (ht : ∀ r, letTemporaryGo value (.ref l) r = pure ()) :
    wpAny (model prog w) A (subscriptTail value slice (.ref l) (.ref s.heap.objs.size)) Q E { s with heap := s.heap.push { cls := .type "slice", data := .fields #[vl, vu, .none] } } :=
  kms_slice_lit F N ⟨_, (N _ hm).1, rfl, _, rfl⟩ pl pu (pick_init vs v) h hs ht (by rw [sizeLine_eq]; simp only [List.size_toArray, List.length_append, List.length_cons, List.length_nil]; omega)
theorem add_P {prog : Program} {w : World} {A : Around} {E : Value → Shared → Prop} {s : Shared} {h₀ : Heap} {L a b : Addr} {m : Str → Option Value} {news : Led} {vs us : List Value} {n k : Nat} {Q : Value → Shared → Prop} (F : Fr h₀ L s.heap m) (N : News h₀ L s.heap news) (h1 : (a, listOf vs.toArray n) ∈ news) (h2 : (b, listOf us.toArray k) ∈ news) (hz : vs.length + us.length ≤ 1000)
    (h : ∀ D h', Fr h₀ L h' m → News h₀ L h' ((D, listOf (vs ++ us).toArray 0) :: news) → (∀ p ∈ news, p.1 < D) → Q (.ref D) { s with heap := h' }) :
    wpAny (model prog w) A (binaryOp .Add (.ref a) (.ref b)) Q E s :=
  add_arrays F N ⟨_, (N _ h1).1, rfl, _, rfl⟩ ⟨_, (N _ h2).1, rfl, _, rfl⟩ (fun h' F' N' => h _ h' F' N' fun p hp => Heap.lt_size (N p hp).1) (by rw [sizeLine_eq]; simp only [List.size_toArray]; omega)
theorem split_P {prog : Program} {w : World} {A : Around} {E : Value → Shared → Prop} {s : Shared} {h₀ : Heap} {L : Addr} {m : Str → Option Value} {news : Led} {rs : List (List Nat × List Nat)} {l : List Nat} {t u : Tok} {y : Str} {Q : Value → Shared → Prop} (F : Fr h₀ L s.heap m) (N : News h₀ L s.heap news) (hy : y = CRLF) (h1 : ∀ q ∈ rs, Plain q.1) (h2 : Plain l) (h3 : rs ≠ []) (hz : (textOf (crlf rs) l).length ≤ 100000)
    (h : ∀ D vs v h' k, StrsAre vs (rs.map fun q => strOf q.1) → Fr h₀ L h' m → News h₀ L h' ((D, listOf (vs ++ [Value.str (strOf l) v]).toArray 0) :: news) → (∀ p ∈ news, p.1 < D) → Q (.ref D) { s with heap := h', toks := k }) :
    wpAny (model prog w) A (call (.builtin "str.split") [.str (strOf (textOf (crlf rs) l)) t, .str y u]) Q E s := by
  subst hy
  refine KSpl.split1 F N (by decide +kernel) (fun D vs h' k e hs F' N' hl => ?_) ?_
  · rw [e, split_text h1 h2 h3] at hs
    obtain ⟨vs1, v, e1, e2⟩ : ∃ vs1 v, strValues vs = vs1 ++ [Value.str (strOf l) v] ∧ StrsAre vs1 (rs.map fun q => strOf q.1) := by
      have aux : ∀ (ys : List Str) (zs : List Value), StrsAre zs (ys ++ [strOf l]) → ∃ vs1 v, zs = vs1 ++ [Value.str (strOf l) v] ∧ StrsAre vs1 ys := by
        intro ys
        induction ys with
        | nil => intro zs hz; cases hz with | cons y t r => cases r; exact ⟨[], t, rfl, .nil⟩
        | cons y ys ih => intro zs hz; cases hz with | cons y t r => obtain ⟨v1, v, e1, e2⟩ := ih _ r; exact ⟨_ :: v1, v, by rw [e1]; rfl, .cons _ _ e2⟩
      exact aux _ _ hs
    rw [e1] at N'
    exact h D vs1 v h' k e2 F' N' hl
  · rw [sizeLine_eq]
    show (textOf (crlf rs) l).toArray.size + 2 ≤ _
    rw [List.size_toArray]; omega
end
section
theorem for_q {prog : Program} {w : World} {A : Around} {E : Value → Shared → Prop} {s : Shared} {env : Env} {h₀ : Heap} {x : Str} {body : List Stmt} {Q : Flow → Shared → Prop} {I : Addr} {m : Str → Option Value} {a : Int} {n : Nat} {led : Led} {T : List Nat} {tok : Tok} (hm : m (Str.ofString "sent") = some (.str (strOf T) tok)) (off : ∀ p ∈ led, p.1 ≠ I)
    (turn : ∀ (t : Tok) (k i : Nat) (tok : Tok) (u : Str → Option Value) h tk, i + k + 1 = n → Fr h₀ env.locals h (fun y => if y = x then some (.int (a + (i : Int)) t) else kstB (fun z => if ([] : List Str).contains z then u z else m z) [(Str.ofString "sent", .str (strOf (quoteN i T)) tok)] y) → News h₀ env.locals h ((I, itR (a + ((i + 1 : Nat) : Int)) ((n : Int) - ((i + 1 : Nat) : Int))) :: led) →
      wpAny (model prog w) A (execs body env) (FPost h₀ env.locals { s with heap := h, toks := tk } I (itR (a + ((i + 1 : Nat) : Int)) ((n : Int) - ((i + 1 : Nat) : Int))) [] (fun _ : Nat × Tok => led) (fun c => [(Str.ofString "sent", .str (strOf (quoteN c.1 T)) c.2)]) [] x m (fun k c => c.1 + k = n) Q k) E { s with heap := h, toks := tk })
    (done : ∀ (tok : Tok) (u : Str → Option Value) h tk, Fr h₀ env.locals h (fun y => if y = x then u y else kstB (fun z => if ([] : List Str).contains z then u z else m z) [(Str.ofString "sent", .str (strOf (quoteN n T)) tok)] y) → News h₀ env.locals h led → Q .next { s with heap := h, toks := tk }) :
    RangeRest prog w A E h₀ env x body Q s I a n n 0 m led :=
  f_range (σ := Nat × Tok) (fun _ => led) (fun c => [(Str.ofString "sent", .str (strOf (quoteN c.1 T)) c.2)]) [] (fun k c => c.1 + k = n)
    (fun t k i c u h tk hi hp F N _ => by
      have e : c.1 = i := by omega
      rw [e] at F
      exact turn t k i c.2 u h tk hi F N)
    (fun c u h tk hp F N => by
      have e : c.1 = n := by omega
      rw [e] at F
      exact done c.2 u h tk F N)
    n 0 (0, tok) m (Nat.zero_add _) (Nat.zero_add _) off (fun p hp => by rw [List.mem_singleton.mp hp]; exact hm) (fun _ _ _ _ => rfl)
theorem quote_l (w : World) (mean : ExcName → Option Value) (mg mb : Str → Option Value) (l : List Nat) (ts : Tok) (news : Led) (hz : l.length ≤ 10000) :
    Con Challenge.rw_pe0223_01.row.prog w (hd.heap_39 w.params) mean mg mb 126 [.str (strOf l) ts] news 20 200 (fun r news' => ∃ tok, r = .str (strOf (quote l)) tok ∧ news' = news) :=
  quote_c w mean mg mb (strOf l) ts news (by show l.toArray.size ≤ 10000; rw [List.size_toArray]; exact hz)
theorem sum_dot (k : Nat) : ∀ rs : List (List Nat × List Nat), ((rs.map fun q => (dotN k q.1, ([13, 10] : List Nat))).map fun q => (q.1.length : Int)).sum = (rs.map fun q => (q.1.length : Int)).sum + k * rs.length
  | [] => by simp
  | q :: rs => by
    have ih := sum_dot k rs
    simp only [List.map_cons, List.sum_cons, List.length_cons] at ih ⊢
    rw [ih]
    have : (dotN k q.1).length = k + q.1.length := by simp [dotN]
    rw [this]
    have e : (k : Int) * ((rs.length + 1 : Nat) : Int) = k * rs.length + k := by rw [Int.natCast_add, Int.mul_add]; simp
    rw [e]
    omega
theorem quoteN_len {rs : List (List Nat × List Nat)} {l : List Nat} (h : TextOk rs l) : ∀ k : Nat, ((quoteN k (textOf rs l)).length : Int) ≤ (rs.map fun q => (q.1.length : Int)).sum + k * rs.length + 2 * rs.length + k + l.length
  | 0 => by
    have := textOf_len rs l fun p hp => (h.1 p hp).2
    rw [quoteN]
    simp only [Int.natCast_zero, Int.zero_mul]
    omega
  | k + 1 => by
    rw [quoteN_text k rs l h]
    have := textOf_len (rs.map fun q => (dotN (k + 1) q.1, ([13, 10] : List Nat))) (dotN (k + 1) l) (fun p hp => by
      obtain ⟨q, _, rfl⟩ := List.mem_map.mp hp
      exact .inr (.inr rfl))
    rw [sum_dot, List.length_map] at this
    have e : (dotN (k + 1) l).length = k + 1 + l.length := by simp [dotN]
    rw [e] at this
    omega
theorem crlf_map (k : Nat) (rs : List (List Nat × List Nat)) : (rs.map fun p => (dotN k p.1, ([13, 10] : List Nat))) = crlf (rs.map fun p => (dotN k p.1, p.2)) := by
  unfold crlf
  rw [List.map_map]
  rfl
end
section
/-- the body of the while at place j of the body of the def at place i of the text, and the def's scope -/
noncomputable def whileAt (p : Program) (i j : Nat) : Option (List Stmt × Scope) :=
  match p.main.body.drop i with
  | .FunctionDef _ _ b _ _ _ sc _ _ _ :: _ => (match b.drop j with
    | .While _ bd _ _ :: _ => some (bd, sc)
    | _ => none)
  | _ => none
noncomputable abbrev mlM (sent tx : Str) (rl pl : Addr) (fr : Int) (stok ttok ftok : Tok) (m1 : Str → Option Value) : Str → Option Value := fun y => if y = Str.ofString "sent" then some (.str sent stok) else if y = Str.ofString "rows" then some (.ref rl) else if y = Str.ofString "text" then some (.str tx ttok) else m1 y
theorem dots_plainN {rs : List (List Nat × List Nat)} {k : Nat} (h : ∀ q ∈ rs, RowOk q.1) : ∀ q ∈ rs.map (fun p => (dotN k p.1, p.2)), Plain q.1 := by
  intro q hq
  obtain ⟨p, hp, rfl⟩ := List.mem_map.mp hq
  intro x hx
  rcases List.mem_append.mp hx with hx | hx
  · rw [List.eq_of_mem_replicate hx]; exact ⟨by decide, by decide⟩
  · exact (h p hp).plain x hx
theorem plain_dots (k : Nat) : Plain (dotN k [46]) := by
  intro x hx
  rcases List.mem_append.mp hx with hx | hx
  · rw [List.eq_of_mem_replicate hx]; exact ⟨by decide, by decide⟩
  · rw [List.mem_singleton.mp hx]; exact ⟨by decide, by decide⟩
theorem rows_strs {rv : List Value} {rt : Tok} {tr : List (List Nat × List Nat)} (h : StrsAre rv (tr.map fun q => strOf q.1)) : StrsAre (rv ++ [Value.str (strOf [46]) rt]) ((tr.map (fun q : List Nat × List Nat => q.1) ++ [[46]]).map strOf) := by
  have e : (tr.map (fun q : List Nat × List Nat => q.1) ++ [[46]]).map strOf = (tr.map fun q => strOf q.1) ++ [strOf [46]] := by
    rw [List.map_append, List.map_map]; rfl
  rw [e]
  exact StrsAre.append' h (.cons _ _ .nil)
theorem len_le_sum : ∀ {tr : List (List Nat × List Nat)} {r : List Nat}, r ∈ tr.map (fun q : List Nat × List Nat => q.1) → (r.length : Int) ≤ (tr.map fun q => (q.1.length : Int)).sum
  | p :: tr, r, h => by
    have hs : ∀ tr : List (List Nat × List Nat), 0 ≤ (tr.map fun q => (q.1.length : Int)).sum := fun tr => by
      induction tr with
      | nil => exact Int.le_refl 0
      | cons q tr ih => rw [List.map_cons, List.sum_cons]; omega
    rw [List.map_cons, List.sum_cons]
    rcases List.mem_cons.mp h with h | h
    · have := hs tr; subst h; dsimp only; omega
    · have := len_le_sum h; omega
theorem mul_dot (t : Int) (h0 : 1 ≤ t) (h1 : t ≤ 3) : Txt.mul (Str.ofString ".") t = strOf (List.replicate t.toNat 46) := by
  have e : t = 1 ∨ t = 2 ∨ t = 3 := by omega
  rcases e with rfl | rfl | rfl <;> decide +kernel
theorem heard_strs {n : Nat} {vs : List Value} {v : Tok} {tr : List (List Nat × List Nat)} (h : StrsAre vs ((tr.map fun p => (dotN n p.1, p.2)).map fun q => strOf q.1)) : StrsAre vs ((tr.map fun p => dotN n p.1).map strOf) ∧ StrsAre (vs ++ [Value.str (strOf (dotN n [46])) v]) (((tr.map fun p => dotN n p.1) ++ [dotN n [46]]).map strOf) := by
  have e1 : (tr.map fun p => (dotN n p.1, p.2)).map (fun q => strOf q.1) = (tr.map fun p => dotN n p.1).map strOf := by
    rw [List.map_map, List.map_map]; rfl
  rw [e1] at h
  refine ⟨h, ?_⟩
  rw [List.map_append]
  exact StrsAre.append' h (.cons _ _ .nil)
theorem comp_strs' {n : Nat} {ys : List Value} {tr : List (List Nat × List Nat)} (h : StrsAre ys ((tr.map (fun q : List Nat × List Nat => q.1) ++ [[46]]).map fun r => strOf (dotN n r))) : StrsAre ys (((tr.map fun p => dotN n p.1) ++ [dotN n [46]]).map strOf) := by
  have e : (tr.map (fun q : List Nat × List Nat => q.1) ++ [[46]]).map (fun r => strOf (dotN n r)) = ((tr.map fun p => dotN n p.1) ++ [dotN n [46]]).map strOf := by
    rw [List.map_append, List.map_append, List.map_map, List.map_map]; rfl
  rw [e] at h
  exact h
theorem small_dots {n : Nat} {tr : List (List Nat × List Nat)} (h : ∀ q ∈ tr, Small q.1) : ∀ r ∈ (tr.map fun p => dotN n p.1) ++ [dotN n [46]], Small r := by
  have aux : ∀ r : List Nat, Small r → Small (dotN n r) := fun r hr x hx => by
    rcases List.mem_append.mp hx with hx | hx
    · rw [List.eq_of_mem_replicate hx]; decide
    · exact hr x hx
  intro r hr
  rcases List.mem_append.mp hr with hr | hr
  · obtain ⟨p, hp, rfl⟩ := List.mem_map.mp hr
    exact aux _ (h p hp)
  · rw [List.mem_singleton.mp hr]
    exact aux _ fun x hx => by rw [List.mem_singleton.mp hx]; decide
theorem fr_eq {h₀ : Heap} {L : Addr} {h : Heap} {m m' : Str → Option Value} (F : Fr h₀ L h m) (e : m = m') : Fr h₀ L h m' := e ▸ F
theorem map_eq {B H S T R : Str} {v1 v1' v2 v3 v4 : Option Value} {v5 : Value} {u m0 : Str → Option Value} (e : v1 = v1') : (fun y => if y = B then v1 else if y = H then v2 else if y = S then u y else kstB (fun z => if ([] : List Str).contains z = true then u z else if z = T then v3 else if z = R then v4 else m0 z) [(T, v5)] y) =
    (fun y => if y = B then v1' else if y = H then v2 else if y = S then u S else if y = T then some v5 else if y = R then v4 else m0 y) := by
  subst e
  funext y
  by_cases e1 : y = B
  · rw [if_pos e1, if_pos e1]
  · rw [if_neg e1, if_neg e1]
    by_cases e2 : y = H
    · rw [if_pos e2, if_pos e2]
    · rw [if_neg e2, if_neg e2]
      by_cases e3 : y = S
      · rw [if_pos e3, if_pos e3, e3]
      · rw [if_neg e3, if_neg e3]
        show (if y = T then some v5 else _) = _
        by_cases e4 : y = T
        · rw [if_pos e4, if_pos e4]
        · rw [if_neg e4, if_neg e4]
          show (if ([] : List Str).contains y = true then u y else if y = T then v3 else if y = R then v4 else m0 y) = _
          rw [if_neg (by simp), if_neg e4]
theorem begun_eq {n : Nat} {t : Int} (hn : t = (n : Int)) (tr : List (List Nat × List Nat)) : (List.map (fun r : List Nat => (r.length : Int)) (List.map (fun p : List Nat × List Nat => dotN n p.1) tr)).sum = (tr.map fun q => (q.1.length : Int)).sum + t * tr.length := by
  have := sum_dot n tr
  rw [List.map_map] at this
  rw [List.map_map, hn]
  exact this
theorem drop4 {α : Type} {x0 x1 x2 x3 : α} {r : List α} : ∀ p ∈ r, p ∈ x0 :: x1 :: x2 :: x3 :: r := fun _ h => .tail _ (.tail _ (.tail _ (.tail _ h)))
local macro_rules | `(tactic| walk_at "eval ListComp") => `(tactic| (k_dflt (refine LCg.ListComp_U (F₀ := by k_asm) (by with_unfolding_all rfl) (by decide) (by rfl) (by decide) (by rfl) ?_)))
theorem s2_t1 {t : Int} {n : Nat} (h : 1 ≤ t) (e : (t - 0).toNat = n + 1) : t = ((n + 1 : Nat) : Int) := by omega
theorem s2_t2 {t : Int} {n : Nat} (e : (t - 0).toNat = n + 1) : t.toNat = n + 1 := by omega
theorem mail_s2 (w : World) (mean : ExcName → Option Value) (mg mb : Str → Option Value) (bd : List Stmt) (sc : Scope) (hb : whileAt Challenge.pw_pe0223_01 20 4 = some (bd, sc)) (t : Int) (tt : Tok) (ht0 : 1 ≤ t) (ht1 : t ≤ 3)
    (tr : List (List Nat × List Nat)) (hok : TextOk tr [46]) (hne : tr ≠ []) (hsm : ∀ q ∈ tr, Small q.1) (hrz : tr.length ≤ 21) (hsum : (tr.map fun q => (q.1.length : Int)).sum ≤ 700) :
    ∀ (dp un : Nat) (gd : Option (List Code)) (cn : Str) (cs : Scope) (a : Addr) (ccd : Value) (cl : List (Str × Addr)) (outer : List Env) (base g : Heap) (L0 L rl : Addr) (m0 : Str → Option Value) (s : Shared) (Q : Flow → Shared → Prop) (E : Value → Shared → Prop)     (hC1 : CodeHd base 51 47) (hC2 : CodeHd base 58 54) (hC3 : CodeHd base 130 128) (B : Below (ktrTop dp un gd cn cs L0 a ccd cl outer) base (envX cn cs L0 a ccd cl :: outer) g) (X : (hd.heap_39 w.params).In g) (T : Top topProg loose0 mean mg mb g) (hk : cs.kind = .function) (hd' : dp + 60 < recursionLimit) (hu : un + 1500 < cLine)     (st1 st2 : Tok) (rv : List Value) (rt : Tok) (rc : Nat) (o2 : Obj) (ho2 : o2.data = .cell (some (.int t tt))) (led : Led) (hrv : StrsAre rv (tr.map fun q => strOf q.1))     (F : Fr g L s.heap (fun y => if y = Str.ofString "sent" then some (.str (strOf (textOf tr [46])) st1) else if y = Str.ofString "rows" then some (.ref rl) else m0 y)) (N : News g L s.heap ((rl, listOf (rv ++ [Value.str (strOf [46]) rt]).toArray rc) :: (L + 1, o2) :: led)) (hret : ∀ (h' : Heap) (tk' : Nat) (x1 x2 x3 : Option Value) (tb : Tok), Fr g L h' (fun y => if y = Str.ofString "begun" then some (.int ((tr.map fun q => (q.1.length : Int)).sum + t * tr.length) tb) else if y = Str.ofString "heard" then x1 else if y = Str.ofString "sending" then x2 else if y = Str.ofString "sent" then x3 else if y = Str.ofString "rows" then some (.ref rl) else m0 y) →
      News g L h' ((rl, listOf (rv ++ [Value.str (strOf [46]) rt]).toArray rc) :: (L + 1, o2) :: led) → wpAny (model Challenge.rw_pe0223_01.row.prog w) ((ktrTop dp un gd cn cs L0 a ccd cl outer).deeper (envOfC (Str.ofString "_law_mail") sc L 131 (.ref 130))) (execs (bd.drop 10) (envOfC (Str.ofString "_law_mail") sc L 131 (.ref 130))) Q (fun e s' => wpAny (model Challenge.rw_pe0223_01.row.prog w) ((ktrTop dp un gd cn cs L0 a ccd cl outer).deeper (envOfC (Str.ofString "_law_mail") sc L 131 (.ref 130))) (leaving (envOfC (Str.ofString "_law_mail") sc L 131 (.ref 130)) e) (fun _ s'' => E e s'') (fun e' s'' => E e' s'') s') { s with heap := h', toks := tk' }),
    wpAny (model Challenge.rw_pe0223_01.row.prog w) ((ktrTop dp un gd cn cs L0 a ccd cl outer).deeper (envOfC (Str.ofString "_law_mail") sc L 131 (.ref 130))) (execs (bd.drop 6) (envOfC (Str.ofString "_law_mail") sc L 131 (.ref 130))) Q (fun e s' => wpAny (model Challenge.rw_pe0223_01.row.prog w) ((ktrTop dp un gd cn cs L0 a ccd cl outer).deeper (envOfC (Str.ofString "_law_mail") sc L 131 (.ref 130))) (leaving (envOfC (Str.ofString "_law_mail") sc L 131 (.ref 130)) e) (fun _ s'' => E e s'') (fun e' s'' => E e' s'') s') s := by
  w_top off
  k_with_none
  k_fill
  cases hb
  intro dp un gd cn cs a ccd cl outer base g L0 L rl m0 s Q E hC1 hC2 hC3 B X T hk hd' hu st1 st2 rv rt rc o2 ho2 led hrv F N hret
  simp only [List.drop]
  have hrow := fun q hq => (hok.1 q hq).1
  have hlq : ∀ i : Nat, i ≤ 3 → (quoteN i (textOf tr [46])).length ≤ 10000 := fun i hi => by
    have h1 := quoteN_len hok i
    have h2 : (i : Int) * tr.length ≤ 3 * 21 := Int.mul_le_mul (by omega) (by omega) (by omega) (by omega)
    simp only [List.length_cons, List.length_nil] at h1
    omega
  k_with "pyIter ref" => refine Mine.stop_out ?_
  k_steps
  refine stop_in ?_
  (rename IsRange _ _ _ _ _ _ _ _ => hR9)
  (rename News _ _ _ _ => N11)
  (rename Fr _ _ _ _ => F11)
  have hsm9 : Builtin.Range.small 0 t 1 = true := small_one (by decide) (by decide) (by omega) (by omega)
  refine iter_rangeUnr (n := (t - 0).toNat) ?_ hR9 hsm9 (rangeSize_nat _ _) F11 N11 ?_
  · rfl
  intro I12 hI12
  refine for_q (T := textOf tr [46]) (by rfl) (fun p hp => Nat.ne_of_lt (hI12 p hp)) ?_ ?_
  · intro t5 k5 i5 tok5 u5 h5 tk5 hi5 F5 N5
    have hq5 := hlq i5 (by omega)
    k_with_none
    k_with "call ref" => ((k_dflt (refine Mine.con_use2 (by assumption) (by exact fun _ h => h) (by k_asm) (by k_asm) (by exact Mine.quote_l _ _ _ _ _ _ _ (by assumption)) (by k_asm) (by k_asm) (by k_asm) (by k_asm) (by k_asm) (by rfl) (by ktr_room) (by ktr_units) ?_); rintro zr8 zn8 zh8 ztk8 ⟨zt8, ze1, ze2⟩ zF8 zN8; subst ze1; subst ze2; (try dsimp only); (try k_fold)))
    k_steps
    (rename News _ _ _ _ => nE)
    dsimp only [FPost]
    refine f_end (σ := Nat × Tok) (c' := (i5 + 1, ?tok9)) (by assumption) nE ?kq9 ?rq9 (.head _) (fun p hp => .tail _ hp) (fun p hp => Nat.ne_of_lt (hI12 p hp)) (fun _ h => nomatch h) ?pq9
    case kq9 =>
      intro p hp
      rw [List.mem_singleton.mp hp]
      dsimp only
      rw [quoteN_succ]
      rfl
    case rq9 => ((intro zz zh1 zh2 zh3; (try simp only [List.forall_mem_cons, List.not_mem_nil, false_implies, implies_true, and_true, ne_eq] at zh2); (try simp only [List.contains_cons, List.contains_nil, Bool.or_false, Bool.or_eq_false_iff, beq_eq_false_iff_ne, ne_eq] at zh3); first | rfl | (simp only [kstB, zh1, zh2, zh3, if_false, List.contains_cons, List.contains_nil, Bool.or_false, Bool.or_eq_true, beq_iff_eq, or_false, false_or, or_self, Bool.false_eq_true, ↓reduceIte]; done) | (simp [kstB, zh1, zh2, zh3]; done)))
    case pq9 => dsimp only; omega
  · intro tok5 u5 h5 tk5 F5 N5
    obtain ⟨n5, hn5⟩ : ∃ n5, (t - 0).toNat = n5 + 1 := ⟨(t - 0).toNat - 1, by omega⟩
    have htn : t = ((n5 + 1 : Nat) : Int) := s2_t1 (by assumption) hn5
    have htN : t.toNat = n5 + 1 := s2_t2 hn5
    rw [hn5, quoteN_text n5 tr [46] hok, crlf_map] at F5
    have hz5 : (textOf (crlf (tr.map fun p => (dotN (n5 + 1) p.1, p.2))) (dotN (n5 + 1) [46])).length ≤ 100000 := by
      have := hlq (n5 + 1) (by omega)
      rw [quoteN_text n5 tr [46] hok, crlf_map] at this
      omega
    k_with_none
    k_with "call builtin:str.split" => refine Mine.stop_out ?_
    k_steps
    refine stop_in ?_
    refine split_P (by k_asm) (by k_asm) rfl (dots_plainN hrow) (plain_dots _) (fun e => hne (List.map_eq_nil_iff.mp e)) hz5 ?_
    intro D8 vs8 v8 h8 tk8 hs8 F8 N8 l8
    (try k_lt l8)
    k_with_none
    k_with "CompSrc" => refine Mine.stop_out ?_
    k_steps
    (try refine stop_in ?_)
    have hsrc := rows_strs (rt := rt) hrv
    have hrvl := hsrc.len_eq
    refine LCg.CompSrc.ledger (by rfl) (by k_asm) (by k_asm) (.tail _ (.head _)) (by rw [sizeLine_eq, List.size_toArray, hrvl]; simp only [List.length_map, List.length_append, List.length_cons, List.length_nil]; omega) ?_
    intro g9
    refine cs_strs (fun r y => ∃ t', y = .str (strOf (dotN (n5 + 1) r)) t') hsrc ?_ (.inr ⟨_, .tail _ (.head _), rfl, _, rfl⟩) ?_
    · intro r7 t7 I7 oI7 C7 oC7 D7 m7 ys7 h7 tk7 E7 hr7 hC7 hx7 F7 N7 off7 ne7 hS7
      k_with_none
      k_with "binaryOp Add str str" => refine Mine.stop_out ?_
      k_steps
      refine stop_in ?_
      rw [mul_dot t ht0 ht1]
      have hr8 : (r7.length : Int) ≤ 700 := by
        rcases List.mem_append.mp hr7 with h | h
        · exact Int.le_trans (len_le_sum h) hsum
        · rw [List.mem_singleton.mp h]; decide
      refine addSS (by rw [List.length_replicate]; omega) ?_
      intro t8 tk8
      exact cs_end (by assumption) (by assumption) off7 hS7 ⟨t8, by rw [show t.toNat = n5 + 1 from htN]; rfl⟩
    · intro ys9 hys9
      have hst9 := comp_strs' (hys9.strs (g := dotN (n5 + 1)))
      obtain ⟨hs9, hs10⟩ := heard_strs (v := v8) hs8
      have hvl8 := hs9.len_eq
      simp only [List.length_map] at hvl8
      unfold LCg.FinE
      intro D10 h10 tk10 F10 N10 o10
      (try simp only [LCg.Off1, and_true] at o10)
      (try dsimp only)
      refine ne_strs N10 (.tail _ (.head _)) (.head _) hs10 hst9 (small_dots hsm) (by ktr_units) ?_
      k_with_none
      k_with "subscriptTail Name Slice ref ref" => (((with_reducible show wpAny _ _ (subscriptTail _ _ (Value.ref _) (Value.ref _)) _ _ _); k_dflt (refine Mine.slice_init (by k_asm) (by k_asm) (by repeat (first | exact List.Mem.head _ | refine List.Mem.tail _ ?_)) (by kmk_part) (by kmk_part) (by ((try simp only [List.length_append, List.length_cons, List.length_nil]); omega)) ?_ (by with_unfolding_all rfl) (by kmk_pure)); intro zD' zh' zF' zN' zl1; (try k_lt zl1)))
      k_with "call ref" => refine Mine.stop_out ?_
      k_steps
      refine LCg.CompSrc.ledger (by rfl) (by k_asm) (by k_asm) (.head _) (by rw [sizeLine_eq, List.size_toArray]; omega) ?_
      intro g12
      refine cs_strs (fun r y => ∃ t', y = .int (r.length : Int) t') hs9 ?_ (.inr ⟨_, .head _, rfl, _, rfl⟩) ?_
      · intro r7 t7 I7 oI7 C7 oC7 D7 m7 ys7 h7 tk7 E7 hr7 hC7 hx7 F7 N7 off7 ne7 hS7
        k_with "call builtin:len" => refine Mine.stop_out ?_
        k_steps
        refine stop_in ?_
        have hr8 : (r7.length : Int) ≤ 10000 := by
          obtain ⟨p8, hp8, e8⟩ := List.mem_map.mp hr7
          have := len_le_sum (List.mem_map_of_mem (f := fun q : List Nat × List Nat => q.1) hp8)
          rw [← e8]
          simp only [dotN, List.length_append, List.length_replicate]
          omega
        have hsz : (strOf r7).length = r7.length := by show r7.toArray.size = _; rw [List.size_toArray]
        refine PyProof.Rows.len_str (by rw [hsz]; omega) ?_
        exact cs_end (by assumption) (by assumption) off7 hS7 ⟨_, by rw [hsz]⟩
      · intro ys12 hys12
        have hin12 := hys12.ints (g := fun r => (r.length : Int))
        unfold LCg.FinE
        intro D12 h12 tk12 F12 N12 o12
        (try simp only [LCg.Off1, and_true] at o12)
        (try dsimp only)
        k_with "call builtin:sum" => refine Mine.stop_out ?_
        k_steps
        refine stop_in ?_
        refine sumK (by rfl) F12 N12 ⟨_, (N12 _ (.head _)).1, rfl, _, rfl⟩ hin12 ?_
        intro h13 tk13 t13 F13 N13
        k_with "execs cons" => refine Mine.stop_out ?_
        k_steps
        refine stop_in ?_
        (rename Fr _ _ _ _ => F14)
        (rename News _ _ _ _ => N14)
        exact hret _ _ _ _ _ _ (fr_eq F14 (map_eq (by rw [begun_eq (n := n5 + 1) (t := t) htn]))) (kst_newsOf N14 drop4)
end
section
theorem map_known {m : Str → Option Value} {A B : Str} {x y : Option Value} (h1 : m A = x) (h2 : m B = y) : m = fun z => if z = A then x else if z = B then y else m z := by
  funext z
  by_cases e1 : z = A
  · rw [if_pos e1, e1, h1]
  · rw [if_neg e1]
    by_cases e2 : z = B
    · rw [if_pos e2, e2, h2]
    · rw [if_neg e2]
theorem insAt_length (ns : List Int) (i : Nat) (x : Int) : (insAt ns i x).length = ns.length + 1 := by
  unfold insAt
  simp only [List.length_append, List.length_take, List.length_cons, List.length_drop]
  omega
theorem insAt_len {ns : List Int} {i : Nat} {x : Int} (h : ns.length ≤ 900) : (insAt ns i x).length ≤ 1000 := by rw [insAt_length]; omega
theorem mail_s3 (w : World) (mean : ExcName → Option Value) (mg mb : Str → Option Value) (bd : List Stmt) (sc : Scope) (hb : whileAt Challenge.pw_pe0223_01 20 4 = some (bd, sc)) :
    ∀ (dp un : Nat) (gd : Option (List Code)) (cn : Str) (cs : Scope) (a : Addr) (ccd : Value) (cl : List (Str × Addr)) (outer : List Env) (base g : Heap) (L0 L pl kl : Addr) (m0 : Str → Option Value) (s : Shared) (Q : Flow → Shared → Prop) (E : Value → Shared → Prop)
    (hC1 : CodeHd base 51 47) (hC2 : CodeHd base 58 54) (hC3 : CodeHd base 130 128) (B : Below (ktrTop dp un gd cn cs L0 a ccd cl outer) base (envX cn cs L0 a ccd cl :: outer) g) (X : (hd.heap_39 w.params).In g) (T : Top topProg loose0 mean mg mb g) (hk : cs.kind = .function) (hd' : dp + 60 < recursionLimit) (hu : un + 1500 < cLine)
    (x1 x2 x3 x4 : Option Value) (fr be : Int) (tf tb : Tok) (kv : List Value) (ks : List Int) (kc : Nat) (pv : List Value) (pc : Nat) (o1 : Obj) (ho1 : o1.data = .cell (some (.ref kl))) (rest : Led) (hkv : IntsAre kv ks) (hkz : ks.length ≤ 900) (hpz : pv.length ≤ 900)
    (hfree : m0 (Str.ofString "free") = some (.int fr tf)) (hpairs : m0 (Str.ofString "pairs") = some (.ref pl)) (hk1 : ∀ p ∈ (L + 1 + 1, o1) :: (pl, listOf pv.toArray pc) :: rest, p.1 ≠ kl) (hp1 : ∀ p ∈ rest, p.1 ≠ pl) (hp2 : (L + 1 + 1 : Nat) ≠ pl) (hkp : kl ≠ pl)
    (F : Fr g L s.heap (fun y => if y = Str.ofString "begun" then some (.int be tb) else if y = Str.ofString "heard" then x1 else if y = Str.ofString "sending" then x2 else if y = Str.ofString "sent" then x3 else if y = Str.ofString "rows" then x4 else m0 y)) (N : News g L s.heap ((kl, listOf kv.toArray kc) :: (L + 1 + 1, o1) :: (pl, listOf pv.toArray pc) :: rest))
    (hret : ∀ (h' : Heap) (tk' : Nat) (D : Addr) (t1 t2 : Tok) (kv' : List Value) (kc' pc' : Nat), IntsAre kv' (insAt (insAt ks (bsL ks fr ks.length 0 ks.length).toNat fr) (bsR (insAt ks (bsL ks fr ks.length 0 ks.length).toNat fr) be (insAt ks (bsL ks fr ks.length 0 ks.length).toNat fr).length 0 (insAt ks (bsL ks fr ks.length 0 ks.length).toNat fr).length).toNat be) →
      Fr g L h' (fun y => if y = Str.ofString "begun" then some (.int be tb) else if y = Str.ofString "heard" then x1 else if y = Str.ofString "sending" then x2 else if y = Str.ofString "sent" then x3 else if y = Str.ofString "rows" then x4 else m0 y) → News g L h' ((D, tupO fr be t1 t2) :: (kl, listOf kv'.toArray kc') :: (L + 1 + 1, o1) :: (pl, listOf (pv ++ [Value.ref D]).toArray pc') :: rest) → (∀ p ∈ (kl, o1) :: (L + 1 + 1, o1) :: (pl, o1) :: rest, p.1 < D) → Q .next { s with heap := h', toks := tk' }),
    wpAny (model Challenge.rw_pe0223_01.row.prog w) ((ktrTop dp un gd cn cs L0 a ccd cl outer).deeper (envOfC (Str.ofString "_law_mail") sc L 131 (.ref 130))) (execs (bd.drop 10) (envOfC (Str.ofString "_law_mail") sc L 131 (.ref 130))) Q (fun e s' => wpAny (model Challenge.rw_pe0223_01.row.prog w) ((ktrTop dp un gd cn cs L0 a ccd cl outer).deeper (envOfC (Str.ofString "_law_mail") sc L 131 (.ref 130))) (leaving (envOfC (Str.ofString "_law_mail") sc L 131 (.ref 130)) e) (fun _ s'' => E e s'') (fun e' s'' => E e' s'') s') s := by
  w_top off
  k_with_none
  k_fill
  cases hb
  intro dp un gd cn cs a ccd cl outer base g L0 L pl kl m0 s Q E hC1 hC2 hC3 B X T hk hd' hu x1 x2 x3 x4 fr be tf tb kv ks kc pv pc o1 ho1 rest hkv hkz hpz hfree hpairs hk1 hp1 hp2 hkp F N hret
  simp only [List.drop]
  rw [map_known hfree hpairs] at F hret
  k_with "call ref" => first | (((with_reducible show wpAny _ _ (call (Value.ref 100) _) _ _ _); k_dflt (refine Mine.con_use2 (by assumption) (by exact fun _ h => h) (by k_asm) (by k_asm) (by exact Mine.insort_left_c _ _ _ _ _ _ _ _ _ _ _ (by assumption) (by omega) (by assumption)) (by k_asm) (by k_asm) (by k_asm) (by k_asm) (by k_asm) (by rfl) (by ktr_room) (by ktr_units) ?_); rintro zr8 zn8 zh8 ztk8 ⟨zv8, zc8, ze1, zhI8, ze2⟩ zF8 zN8; subst ze1; subst ze2; have zhL8 := zhI8.length; (try dsimp only); (try k_fold))) | (((with_reducible show wpAny _ _ (call (Value.ref 82) _) _ _ _); k_dflt (refine Mine.con_use2 (by assumption) (by exact fun _ h => h) (by k_asm) (by k_asm) (by exact Mine.insort_right_c _ _ _ _ _ _ _ _ _ _ _ (by assumption) (Mine.insAt_len (by omega)) (by assumption)) (by k_asm) (by k_asm) (by k_asm) (by k_asm) (by k_asm) (by rfl) (by ktr_room) (by ktr_units) ?_); rintro zr8 zn8 zh8 ztk8 ⟨zv8, zc8, ze1, zhI8, ze2⟩ zF8 zN8; subst ze1; subst ze2; (try dsimp only); (try k_fold)))
  k_with "call builtin:list.append" => ((k_here; (with_reducible show wpAny _ _ (call (Value.builtin _) [Value.ref _, _]) _ _ _); k_dflt (refine append_K (by k_asm) (by k_asm) (by k_upd) ?_ (by (rw [PySem.sizeLine_eq]; simp only [List.size_toArray]; omega)); k_whole); intro zh' zF' zN'; (try k_sweep)))
  k_steps
  (rename Fr _ _ _ _ => F9)
  (rename News _ _ _ _ => N9)
  simp only [List.push_toArray] at N9
  have hall := (‹_ ∧ _ ∧ _ ∧ AllLt _ rest›)
  exact hret _ _ _ _ _ _ _ _ (by assumption) F9 N9 (fun p hp => allLt_mem (l := (kl, o1) :: (L + 1 + 1, o1) :: (pl, o1) :: rest) hall p hp)
end
section
noncomputable def tailAt (p : Program) (i j k : Nat) : Option (List Stmt × Scope) :=
  match whileAt p i j with
  | some (bd, sc) => some (bd.drop k, sc)
  | none => none
theorem s23_perm {α : Type} {r t k c p : α} {l : List α} : ∀ q ∈ k :: c :: p :: r :: t :: l, q ∈ r :: t :: k :: c :: p :: l := by
  intro q hq
  simp only [List.mem_cons] at hq ⊢
  rcases hq with h | h | h | h | h | h <;> simp [h]
theorem mail_s23 (w : World) (mean : ExcName → Option Value) (mg mb : Str → Option Value) (stmts : List Stmt) (sc : Scope) (hst : tailAt Challenge.pw_pe0223_01 20 4 6 = some (stmts, sc)) (t : Int) (tt : Tok) (ht0 : 1 ≤ t) (ht1 : t ≤ 3)
    (tr : List (List Nat × List Nat)) (hok : TextOk tr [46]) (hne : tr ≠ []) (hsm : ∀ q ∈ tr, Small q.1) (hrz : tr.length ≤ 21) (hsum : (tr.map fun q => (q.1.length : Int)).sum ≤ 700)
    (dp un : Nat) (gd : Option (List Code)) (cn : Str) (cs : Scope) (a : Addr) (ccd : Value) (cl : List (Str × Addr)) (outer : List Env) (base g : Heap) (L0 L rl pl kl : Addr) (m0 : Str → Option Value) (s : Shared) (Q : Flow → Shared → Prop) (E : Value → Shared → Prop)
    (hC1 : CodeHd base 51 47) (hC2 : CodeHd base 58 54) (hC3 : CodeHd base 130 128) (B : Below (ktrTop dp un gd cn cs L0 a ccd cl outer) base (envX cn cs L0 a ccd cl :: outer) g) (X : (hd.heap_39 w.params).In g) (T : Top topProg loose0 mean mg mb g) (hk : cs.kind = .function) (hd' : dp + 60 < recursionLimit) (hu : un + 1500 < cLine)
    (st1 : Tok) (rv : List Value) (rt : Tok) (rc : Nat) (o1 o2 : Obj) (ho1 : o1.data = .cell (some (.ref kl))) (ho2 : o2.data = .cell (some (.int t tt))) (hrv : StrsAre rv (tr.map fun q => strOf q.1))
    (fr : Int) (tf : Tok) (kv : List Value) (ks : List Int) (kc : Nat) (pv : List Value) (pc : Nat) (rest : Led) (hkv : IntsAre kv ks) (hkz : ks.length ≤ 900) (hpz : pv.length ≤ 900)
    (hfree : m0 (Str.ofString "free") = some (.int fr tf)) (hpairs : m0 (Str.ofString "pairs") = some (.ref pl)) (hk1 : ∀ p ∈ (L + 1 + 1, o1) :: (pl, listOf pv.toArray pc) :: (rl, listOf (rv ++ [Value.str (strOf [46]) rt]).toArray rc) :: (L + 1, o2) :: rest, p.1 ≠ kl) (hp1 : ∀ p ∈ (rl, listOf (rv ++ [Value.str (strOf [46]) rt]).toArray rc) :: (L + 1, o2) :: rest, p.1 ≠ pl) (hp2 : (L + 1 + 1 : Nat) ≠ pl) (hkp : kl ≠ pl)
    (F : Fr g L s.heap (fun y => if y = Str.ofString "sent" then some (.str (strOf (textOf tr [46])) st1) else if y = Str.ofString "rows" then some (.ref rl) else m0 y)) (N : News g L s.heap ((rl, listOf (rv ++ [Value.str (strOf [46]) rt]).toArray rc) :: (L + 1, o2) :: (kl, listOf kv.toArray kc) :: (L + 1 + 1, o1) :: (pl, listOf pv.toArray pc) :: rest))
    (hret : ∀ (h' : Heap) (tk' : Nat) (D : Addr) (t1 t2 : Tok) (kv' : List Value) (kc' pc' : Nat) (x1 x2 x3 : Option Value) (tb : Tok), IntsAre kv' (insAt (insAt ks (bsL ks fr ks.length 0 ks.length).toNat fr) (bsR (insAt ks (bsL ks fr ks.length 0 ks.length).toNat fr) ((tr.map fun q => (q.1.length : Int)).sum + t * tr.length) (insAt ks (bsL ks fr ks.length 0 ks.length).toNat fr).length 0 (insAt ks (bsL ks fr ks.length 0 ks.length).toNat fr).length).toNat ((tr.map fun q => (q.1.length : Int)).sum + t * tr.length)) →
      Fr g L h' (fun y => if y = Str.ofString "begun" then some (.int ((tr.map fun q => (q.1.length : Int)).sum + t * tr.length) tb) else if y = Str.ofString "heard" then x1 else if y = Str.ofString "sending" then x2 else if y = Str.ofString "sent" then x3 else if y = Str.ofString "rows" then some (.ref rl) else m0 y) → News g L h' ((D, tupO fr ((tr.map fun q => (q.1.length : Int)).sum + t * tr.length) t1 t2) :: (kl, listOf kv'.toArray kc') :: (L + 1 + 1, o1) :: (pl, listOf (pv ++ [Value.ref D]).toArray pc') :: (rl, listOf (rv ++ [Value.str (strOf [46]) rt]).toArray rc) :: (L + 1, o2) :: rest) → (∀ p ∈ (kl, o1) :: (L + 1 + 1, o1) :: (pl, o1) :: (rl, listOf (rv ++ [Value.str (strOf [46]) rt]).toArray rc) :: (L + 1, o2) :: rest, p.1 < D) → Q .next { s with heap := h', toks := tk' }) :
    wpAny (model Challenge.rw_pe0223_01.row.prog w) ((ktrTop dp un gd cn cs L0 a ccd cl outer).deeper (envOfC (Str.ofString "_law_mail") sc L 131 (.ref 130))) (execs stmts (envOfC (Str.ofString "_law_mail") sc L 131 (.ref 130))) Q (fun e s' => wpAny (model Challenge.rw_pe0223_01.row.prog w) ((ktrTop dp un gd cn cs L0 a ccd cl outer).deeper (envOfC (Str.ofString "_law_mail") sc L 131 (.ref 130))) (leaving (envOfC (Str.ofString "_law_mail") sc L 131 (.ref 130)) e) (fun _ s'' => E e s'') (fun e' s'' => E e' s'') s') s := by
  unfold tailAt at hst
  split at hst
  case h_2 => cases hst
  rename_i bd sc' hb
  obtain ⟨rfl, rfl⟩ := Prod.mk.inj (Option.some.inj hst)
  refine mail_s2 w mean mg mb bd sc' hb t tt ht0 ht1 tr hok hne hsm hrz hsum dp un gd cn cs a ccd cl outer base g L0 L rl m0 s Q E hC1 hC2 hC3 B X T hk hd' hu st1 st1 rv rt rc o2 ho2 _ hrv F N ?_
  intro h' tk' x1 x2 x3 tb F' N'
  refine mail_s3 w mean mg mb bd sc' hb dp un gd cn cs a ccd cl outer base g L0 L pl kl m0 _ Q E hC1 hC2 hC3 B X T hk hd' hu x1 x2 x3 _ fr _ tf tb kv ks kc pv pc o1 ho1 _ hkv hkz hpz hfree hpairs hk1 hp1 hp2 hkp F' (kst_newsOf N' s23_perm) ?_
  intro h9 tk9 D t1 t2 kv' kc' pc' hi F9 N9 hD
  exact hret h9 tk9 D t1 t2 kv' kc' pc' x1 x2 x3 tb hi F9 N9 hD
end
section
structure MlS where
  pv : List Value
  a : Addr
  x : Int
  y : Int
  tx : Tok
  ty : Tok
  pp : List (Int × Int)
  pc : Nat
  kv : List Value
  ks : List Int
  kc : Nat
  rl : Addr
  rv : List Value
  rt : Tok
  rc : Nat
  tr : List (List Nat × List Nat)
  tok : Tok
  p : Array Value
  tl : Led
  fuel : Nat
noncomputable def keyed (ks : List Int) : List Int := (List.range ks.length).map fun i => ks.getD i 0 - (i : Int)
/-- the places of the rows, by the steps of _law_mail: pp are the pairs, the last one last; ks the places taken -/
noncomputable def mlS (t b : Int) : Nat → List (Int × Int) → Int → Int → List Int → Option (List (Int × Int))
  | 0, _, _, _, _ => none
  | k + 1, pp, x, y, ks => if y ≤ b then
      (let gs := keyed ks
       let free := bsR gs 0 gs.length 0 gs.length
       let begun := free + t * ((pp.length : Int) + 1)
       let ks1 := insAt ks (bsL ks free ks.length 0 ks.length).toNat free
       if 0 ≤ free - x - 1 ∧ free - x - 1 ≤ 30 then mlS t b k (pp ++ [(x, y)]) free begun (insAt ks1 (bsR ks1 begun ks1.length 0 ks1.length).toNat begun) else none)
    else some (pp ++ [(x, y)])
structure MlP (t b : Int) (res : List (Int × Int)) (pl kl : Addr) (news : Led) (c : MlS) : Prop where
  s : mlS t b c.fuel c.pp c.x c.y c.ks = some res
  p : PairsAre (c.tl ++ news) c.pv c.pp
  a : (c.a, tupO c.x c.y c.tx c.ty) ∈ c.tl ++ news
  k : IntsAre c.kv c.ks
  kz : c.ks.length = 2 * c.pp.length + 1
  r : StrsAre c.rv (c.tr.map fun q => strOf q.1)
  rz : c.tr.length = c.pp.length
  o : TextOk c.tr [46]
  sm : ∀ q ∈ c.tr, Small q.1
  f : c.pp.length + c.fuel ≤ 20
  m : ((c.tr.map fun q => (q.1.length : Int)).sum) = c.x
  z : c.x ≤ 31 * c.pp.length
  T : Tab 143 60 (Str.ofString "_law_mail.<locals>.<lambda>") (c.tl ++ news) c.p
  n : ∀ q ∈ c.tl, @LT.lt Nat _ 128 q.1 ∧ q.1 ≠ pl ∧ q.1 ≠ kl
  l : @LT.lt Nat _ 128 c.rl ∧ c.rl ≠ pl ∧ c.rl ≠ kl
  b : @LT.lt Nat _ 128 c.a ∧ c.a ≠ pl ∧ c.a ≠ kl
noncomputable abbrev mlL (pl kl : Addr) (c1 c2 d : Addr × Obj) (news : Led) (c : MlS) : Led := (pl, listOf (c.pv ++ [Value.ref c.a]).toArray c.pc) :: (kl, listOf c.kv.toArray c.kc) :: (c.rl, listOf (c.rv ++ [Value.str (strOf [46]) c.rt]).toArray c.rc) :: c1 :: c2 :: (128, tabObj c.p) :: d :: (c.tl ++ news)
noncomputable abbrev mlF (c : MlS) : List (Str × Value) := [(Str.ofString "rows", .ref c.rl), (Str.ofString "text", .str (strOf (textOf c.tr [46])) c.tok)]
noncomputable abbrev mlN : List Str := [Str.ofString "free", Str.ofString "dressed", Str.ofString "more", Str.ofString "sent", Str.ofString "sending", Str.ofString "heard", Str.ofString "begun"]
theorem item_last {prog : Program} {w : World} {A : Around} {E : Value → Shared → Prop} {s : Shared} {h₀ : Heap} {L D : Addr} {news : Led} {vs : List Value} {v : Value} {cnt : Nat} {u : Tok} {value slice : Expr} {Q : Value → Shared → Prop} (N : News h₀ L s.heap news) (hm : (D, listOf (vs ++ [v]).toArray cnt) ∈ news) (hl : vs.length ≤ 1000)
    (h : Q v s) (hs : subscripted slice false (.ref D) (.int (-1) u) = operate [.ref D, .int (-1) u] (getItem (.ref D) (.int (-1) u)) := by with_unfolding_all rfl) :
    wpAny (model prog w) A (subscriptTail value slice (.ref D) (.int (-1) u)) Q E s := by
  have hL : s.heap.IsList D (vs ++ [v]).toArray := ⟨_, (N _ hm).1, rfl, _, rfl⟩
  have hz : (vs ++ [v]).toArray.size = vs.length + 1 := by simp
  refine tail_any hL.typeIs slot_list_getitem.lookup (wpAny_getItem_list_neg hL (by decide) (by rw [hz]; omega) (by decide) ?_ h) hs
  rw [hz, show ((-1 : Int) + ((vs.length + 1 : Nat) : Int)).toNat = vs.length by omega]
  simp
theorem up7 {α : Type} {x0 x1 x2 x3 x4 x5 x6 x7 x8 : α} {r : List α} : ∀ p ∈ x7 :: ([x0, x1, x2, x3, x4, x5, x6, x8] ++ r), p ∈ x0 :: x1 :: x2 :: x3 :: x4 :: x5 :: x6 :: x7 :: x8 :: r := by
  intro p hp
  simp only [List.mem_cons, List.cons_append, List.nil_append] at hp ⊢
  rcases hp with h | h | h | h | h | h | h | h | h | h <;> simp [h]
theorem off8 {P : Addr} {x0 x1 x2 x3 x4 x5 x6 x7 : Addr × Obj} {r : Led} (h0 : x0.1 ≠ P) (h1 : x1.1 ≠ P) (h2 : x2.1 ≠ P) (h3 : x3.1 ≠ P) (h4 : x4.1 ≠ P) (h5 : x5.1 ≠ P) (h6 : x6.1 ≠ P) (h7 : x7.1 ≠ P) (hr : ∀ p ∈ r, p.1 ≠ P) : ∀ p ∈ [x0, x1, x2, x3, x4, x5, x6, x7] ++ r, p.1 ≠ P := by
  intro p hp
  simp only [List.mem_cons, List.cons_append, List.nil_append] at hp
  rcases hp with rfl | rfl | rfl | rfl | rfl | rfl | rfl | rfl | hp <;> first | assumption | exact hr p hp
theorem off_tail {P : Addr} {tl news : Led} (h1 : ∀ q ∈ tl, q.1 ≠ P) (h2 : ∀ q ∈ news, q.1 ≠ P) : ∀ q ∈ tl ++ news, q.1 ≠ P := by
  intro q hq
  rcases List.mem_append.mp hq with hq | hq
  · exact h1 q hq
  · exact h2 q hq
theorem keyed_eq (ks : List Int) : (rangeKs 0 ((ks.length : Int) - 0).toNat).map (fun i => ks.getD i.toNat 0 - i) = keyed ks := by
  unfold rangeKs keyed
  rw [List.map_map, show ((ks.length : Int) - 0).toNat = ks.length by omega]
  refine List.map_congr_left fun i _ => ?_
  show ks.getD (0 + (i : Int)).toNat 0 - (0 + (i : Int)) = ks.getD i 0 - (i : Int)
  rw [Int.zero_add, Int.toNat_natCast]
theorem MlP.next {t b : Int} {res : List (Int × Int)} {pl kl : Addr} {news : Led} {c : MlS} (h : MlP t b res pl kl news c) (hy : c.y ≤ b) : ∃ k free begun, free = bsR (keyed c.ks) 0 (keyed c.ks).length 0 (keyed c.ks).length ∧ begun = free + t * ((c.pp.length : Int) + 1) ∧ c.fuel = k + 1 ∧ 0 ≤ free - c.x - 1 ∧ free - c.x - 1 ≤ 30 ∧
    mlS t b k (c.pp ++ [(c.x, c.y)]) free begun (insAt (insAt c.ks (bsL c.ks free c.ks.length 0 c.ks.length).toNat free) (bsR (insAt c.ks (bsL c.ks free c.ks.length 0 c.ks.length).toNat free) begun (insAt c.ks (bsL c.ks free c.ks.length 0 c.ks.length).toNat free).length 0 (insAt c.ks (bsL c.ks free c.ks.length 0 c.ks.length).toNat free).length).toNat begun) = some res := by
  have hs := h.s
  cases hk : c.fuel with
  | zero => rw [hk, mlS] at hs; cases hs
  | succ k =>
    rw [hk, mlS, if_pos hy] at hs
    dsimp only at hs
    split at hs
    · rename_i hc
      exact ⟨k, _, _, rfl, rfl, rfl, hc.1, hc.2, hs⟩
    · cases hs
theorem MlP.stop {t b : Int} {res : List (Int × Int)} {pl kl : Addr} {news : Led} {c : MlS} (h : MlP t b res pl kl news c) (hy : ¬ c.y ≤ b) : c.pp ++ [(c.x, c.y)] = res := by
  have hs := h.s
  cases hk : c.fuel with
  | zero => rw [hk, mlS] at hs; cases hs
  | succ k => rw [hk, mlS, if_neg hy] at hs; exact Option.some.inj hs
theorem drop2 {α : Type} {x0 x1 x2 x3 x4 x5 x6 x7 x8 x9 : α} {r : List α} : ∀ p ∈ x3 :: x4 :: x5 :: x6 :: x7 :: x8 :: x2 :: x9 :: r, p ∈ x0 :: x1 :: x2 :: x3 :: x4 :: x5 :: x6 :: x7 :: x8 :: x9 :: r := by
  intro p hp
  simp only [List.mem_cons] at hp ⊢
  rcases hp with h | h | h | h | h | h | h | h | h <;> simp [h]
theorem EndOk.len {e : List Nat} (h : EndOk e) : e.length ≤ 2 := by rcases h with e | e | e <;> rw [e] <;> simp
theorem dot_eq : Str.ofString "." = strOf [46] := by decide +kernel
theorem while_ml {prog : Program} {w : World} {A : Around} {E : Value → Shared → Prop} {Q : Flow → Shared → Prop} {s : Shared} {env : Env} {h₀ : Heap} {L pl kl rl a : Addr} {c1 c2 d : Addr × Obj} {news : Led} {test : Expr} {body : List Stmt} {pos : Pos} {m₀ : Str → Option Value} {pc kc rc : Nat} {tx ty kt rt tok : Tok} {p128 : Array Value} (t b : Int) (res : List (Int × Int))
    (F : Fr h₀ L s.heap m₀) (N : News h₀ L s.heap ((pl, listOf #[.ref a] pc) :: (a, tupO 0 0 tx ty) :: (kl, listOf #[.int 0 kt] kc) :: (rl, listOf #[.str (Str.ofString ".") rt] rc) :: c1 :: c2 :: (128, tabObj p128) :: d :: news))
    (hrow : m₀ (Str.ofString "rows") = some (.ref rl)) (htx : m₀ (Str.ofString "text") = some (.str (Str.ofString ".") tok)) (hres : mlS t b 15 [] 0 0 [0] = some res) (hT : Tab 143 60 (Str.ofString "_law_mail.<locals>.<lambda>") news p128)
    (ha : @LT.lt Nat _ 128 a ∧ a ≠ pl ∧ a ≠ kl) (hl : @LT.lt Nat _ 128 rl ∧ rl ≠ pl ∧ rl ≠ kl) (hnK : ∀ q ∈ news, q.1 ≠ kl) (hnP : ∀ q ∈ news, q.1 ≠ pl) (hkp : @LT.lt Nat _ kl pl)
    (turn : (∀ q ∈ news, q.1 ≠ kl) → (∀ q ∈ news, q.1 ≠ pl) → @LT.lt Nat _ kl pl → ∀ (c : MlS) (u : Str → Option Value) h tk, MlP t b res pl kl news c → Fr h₀ L h (kstB (fun z => if mlN.contains z then u z else m₀ z) (mlF c)) → News h₀ L h ((c.a, tupO c.x c.y c.tx c.ty) :: mlL pl kl c1 c2 d news c) →
      wpAny (model prog w) A (isTrue test env (eval test env)) (fun b' s₂ =>
        if b' = true then wpAny (model prog w) A (execs body env) (WPost h₀ L s (mlL pl kl c1 c2 d news) mlF mlN m₀ (MlP t b res pl kl news) (fun c => c.fuel) Q c) E s₂ else Q .next s₂) E { s with heap := h, toks := tk })
    (hE : PassesOwn (model prog w) A env E := by passes_own) :
    wpAny (model prog w) A (exec (.While test body [] pos) env) Q E s := by
  rw [dot_eq] at N htx
  refine w_while (σ := MlS) (mlL pl kl c1 c2 d news) mlF mlN (MlP t b res pl kl news) (fun c => c.fuel) ⟨[], a, 0, 0, tx, ty, [], pc, [.int 0 kt], [0], kc, rl, [], rt, rc, [], tok, p128, [(a, tupO 0 0 tx ty)], 15⟩ F N ?_ ?_ ?_ (fun c u h tk hp F N => turn hnK hnP hkp c u h tk hp F fun p hq => ?_) hE
  · intro p hp
    simp only [mlF, List.mem_cons, List.not_mem_nil, or_false] at hp
    rcases hp with rfl | rfl
    · exact hrow
    · exact htx
  · intro p hp
    simp only [mlL, List.mem_cons, List.cons_append, List.nil_append] at hp ⊢
    rcases hp with hp | hp | hp | hp | hp | hp | hp | hp | hp <;> simp [hp]
  · refine ⟨hres, .nil, .head _, .cons _ _ .nil, rfl, .nil, rfl, ⟨(fun _ h => nomatch h), ⟨[], rfl, (fun _ h => nomatch h)⟩⟩, (fun _ h => nomatch h), Nat.le_of_ble_eq_true rfl, rfl, Int.le_refl 0, hT.mono fun _ h => .tail _ h, fun q hq => ?_, hl, ha⟩
    rw [List.mem_singleton.mp hq]; exact ha
  · rcases List.mem_cons.mp hq with rfl | hq
    · have := hp.a
      refine N _ ?_
      simp only [mlL, List.mem_cons]
      exact .inr (.inr (.inr (.inr (.inr (.inr (.inr this))))))
    · exact N p hq
end
section
/-- what the mail's pairs are asked -/
noncomputable def mailB (t b : Int) : Bool :=
  match mlS t b 15 [] 0 0 [0] with
  | none => false
  | some res => decide (res.dropLast = lostX t (b + 1) (b + 1).toNat 0 []) && decide (1 ≤ res.length ∧ res.length ≤ 100) &&
      (List.range res.length).all (fun k => decide (0 ≤ (res.getD k (0, 0)).1 ∧ (res.getD k (0, 0)).1 < 2000 ∧ 0 ≤ (res.getD k (0, 0)).2 ∧ (res.getD k (0, 0)).2 < 2000) && (decide (k = 0) || atRoot (res.getD k (0, 0)).1 (res.getD k (0, 0)).2 k t))
structure MailOk (t b : Int) (res : List (Int × Int)) : Prop where
  s : mlS t b 15 [] 0 0 [0] = some res
  l : res.dropLast = lostX t (b + 1) (b + 1).toNat 0 []
  n : 1 ≤ res.length ∧ res.length ≤ 100
  k : ∀ k : Nat, 1 ≤ k → k < res.length → (0 ≤ (res.getD k (0, 0)).1 ∧ (res.getD k (0, 0)).1 < 2000 ∧ 0 ≤ (res.getD k (0, 0)).2 ∧ (res.getD k (0, 0)).2 < 2000) ∧ atRoot (res.getD k (0, 0)).1 (res.getD k (0, 0)).2 k t = true
theorem mailB_ok {t b : Int} (h : mailB t b = true) : ∃ res, MailOk t b res := by
  unfold mailB at h
  split at h
  · cases h
  · rename_i res e
    simp only [Bool.and_eq_true] at h
    obtain ⟨⟨h1, h2⟩, h3⟩ := h
    refine ⟨res, e, of_decide_eq_true h1, of_decide_eq_true h2, fun k hk1 hk2 => ?_⟩
    have := List.all_eq_true.mp h3 k (List.mem_range.mpr hk2)
    simp only [Bool.and_eq_true, Bool.or_eq_true] at this
    refine ⟨of_decide_eq_true this.1, ?_⟩
    rcases this.2 with h | h
    · have := of_decide_eq_true h; omega
    · exact h
theorem mail_all {t b : Int} (h1 : 1 ≤ t) (h2 : t ≤ 3) (h3 : 8 ≤ b) (h4 : b ≤ 11) : ∃ res, MailOk t b res := by
  refine mailB_ok ?_
  have ht : t = 1 ∨ t = 2 ∨ t = 3 := by omega
  have hb : b = 8 ∨ b = 9 ∨ b = 10 ∨ b = 11 := by omega
  rcases ht with rfl | rfl | rfl <;> rcases hb with rfl | rfl | rfl | rfl <;> decide +kernel
end
section
theorem s5_perm {α : Type} {D x1 x2 x3 a5 pl kl r5 c1 c2 p d : α} {l : List α} : ∀ q ∈ D :: c2 :: kl :: c1 :: pl :: (a5 :: p :: d :: l), q ∈ D :: x1 :: x2 :: x3 :: a5 :: pl :: kl :: r5 :: c1 :: c2 :: p :: d :: l := by
  intro q hq
  simp only [List.mem_cons] at hq ⊢
  rcases hq with h | h | h | h | h | h | h | h | h <;> simp [h]
theorem s5_end {α : Type} {D kl c1 pl rl c2 a5 p d : α} {l : List α} : ∀ q ∈ pl :: kl :: rl :: c1 :: c2 :: p :: d :: (D :: l), q ∈ D :: kl :: c1 :: pl :: rl :: c2 :: a5 :: p :: d :: l := by
  intro q hq
  simp only [List.mem_cons] at hq ⊢
  rcases hq with h | h | h | h | h | h | h | h | h <;> simp [h]
theorem sum_snoc (tr : List (List Nat × List Nat)) (r e : List Nat) : ((tr ++ [(r, e)]).map fun q => (q.1.length : Int)).sum = (tr.map fun q => (q.1.length : Int)).sum + r.length := by
  rw [List.map_append, List.sum_append]
  simp
theorem mail_s5 (w : World) (mean : ExcName → Option Value) (mg mb : Str → Option Value) (stmts : List Stmt) (sc : Scope) (hst : tailAt Challenge.pw_pe0223_01 20 4 6 = some (stmts, sc)) (t b : Int) (tt : Tok) (ht0 : 1 ≤ t) (ht1 : t ≤ 3) (res : List (Int × Int))
    (c : MlS) (mm ee : List Nat) (hmm : Plain mm) (hms : Small mm) (hee : EndOk ee) (k8 : Nat) (fr8 be8 : Int) (hml : (mm.length : Int) = fr8 - c.x - 1) (e2 : be8 = fr8 + t * ((c.pp.length : Int) + 1)) (e3 : c.fuel = k8 + 1) (e4 : 0 ≤ fr8 - c.x - 1) (e5 : fr8 - c.x - 1 ≤ 30)
    (e6 : mlS t b k8 (c.pp ++ [(c.x, c.y)]) fr8 be8 (insAt (insAt c.ks (bsL c.ks fr8 c.ks.length 0 c.ks.length).toNat fr8) (bsR (insAt c.ks (bsL c.ks fr8 c.ks.length 0 c.ks.length).toNat fr8) be8 (insAt c.ks (bsL c.ks fr8 c.ks.length 0 c.ks.length).toNat fr8).length 0 (insAt c.ks (bsL c.ks fr8 c.ks.length 0 c.ks.length).toNat fr8).length).toNat be8) = some res)
    (dp un : Nat) (gd : Option (List Code)) (cn : Str) (cs : Scope) (a : Addr) (ccd : Value) (cl : List (Str × Addr)) (outer : List Env) (base g : Heap) (L0 L pl kl rl : Addr) (m₀ u5 : Str → Option Value) (s : Shared) (s₀ : Shared) (Qw : Flow → Shared → Prop) (E : Value → Shared → Prop) (news tl7 : Led) (p7 : Array Value) (d : Addr × Obj)
    (hp : MlP t b res pl kl news c) (hnK : ∀ q ∈ news, q.1 ≠ kl) (hnP : ∀ q ∈ news, q.1 ≠ pl) (hkp : @LT.lt Nat _ kl pl) (hT7 : Tab 143 60 (Str.ofString "_law_mail.<locals>.<lambda>") (tl7 ++ news) p7) (hs7 : ∀ q ∈ c.tl, q ∈ tl7) (hn7 : ∀ q ∈ tl7, @LT.lt Nat _ 128 q.1 ∧ q.1 ≠ pl ∧ q.1 ≠ kl)
    (hd1 : d.1 ≠ kl ∧ d.1 ≠ pl) (hL : @LT.lt Nat _ (L + 1 + 1) kl) (hL1 : @LT.lt Nat _ 128 kl) (hrl : @LT.lt Nat _ pl rl)
    (hC1 : CodeHd base 51 47) (hC2 : CodeHd base 58 54) (hC3 : CodeHd base 130 128) (B : Below (ktrTop dp un gd cn cs L0 a ccd cl outer) base (envX cn cs L0 a ccd cl :: outer) g) (X : (hd.heap_39 w.params).In g) (T : Top topProg loose0 mean mg mb g) (hk : cs.kind = .function) (hd' : dp + 60 < recursionLimit) (hu : un + 1500 < cLine)
    (st1 st2 ra rb tf : Tok) (o1 o2 x1 x2 x3 : Addr × Obj) (oc1 oc2 : Obj) (ho1 : oc1.data = .cell (some (.ref kl))) (ho2 : oc2.data = .cell (some (.int t tt))) (r5 : Addr × Obj) (xm xd : Option Value)
    (hs0 : ∃ hh tk, s = { s₀ with heap := hh, toks := tk })
    (F : Fr g L s.heap (fun y => if y = Str.ofString "sent" then some (.str (strOf (textOf c.tr [46] ++ mm ++ ee ++ [46])) st1) else if y = Str.ofString "rows" then some (.ref rl) else if y = Str.ofString "text" then some (.str (strOf (textOf c.tr [46] ++ mm ++ ee ++ [46])) st2) else if y = Str.ofString "more" then xm else if y = Str.ofString "dressed" then xd else if y = Str.ofString "free" then some (.int fr8 tf) else kstB (fun z => if mlN.contains z then u5 z else m₀ z) (mlF c) y))
    (hm0 : m₀ (Str.ofString "pairs") = some (.ref pl))
    (N : News g L s.heap ((rl, listOf (c.rv ++ [Value.str (strOf (46 :: mm)) ra, Value.str (Str.ofString ".") rb]).toArray 0) :: x1 :: x2 :: x3 :: (c.a, tupO c.x c.y c.tx c.ty) :: (pl, listOf (c.pv ++ [Value.ref c.a]).toArray c.pc) :: (kl, listOf c.kv.toArray c.kc) :: r5 :: (L + 1 + 1, oc1) :: (L + 1, oc2) :: (128, tabObj p7) :: d :: (tl7 ++ news))) :
    wpAny (model Challenge.rw_pe0223_01.row.prog w) ((ktrTop dp un gd cn cs L0 a ccd cl outer).deeper (envOfC (Str.ofString "_law_mail") sc L 131 (.ref 130))) (execs stmts (envOfC (Str.ofString "_law_mail") sc L 131 (.ref 130))) (WPost g L s₀ (mlL pl kl (L + 1 + 1, oc1) (L + 1, oc2) d news) mlF mlN m₀ (MlP t b res pl kl news) (fun c => c.fuel) Qw c) (fun e s' => wpAny (model Challenge.rw_pe0223_01.row.prog w) ((ktrTop dp un gd cn cs L0 a ccd cl outer).deeper (envOfC (Str.ofString "_law_mail") sc L 131 (.ref 130))) (leaving (envOfC (Str.ofString "_law_mail") sc L 131 (.ref 130)) e) (fun _ s'' => E e s'') (fun e' s'' => E e' s'') s') s := by
  obtain ⟨hh, tk0, rfl⟩ := hs0
  have hts := textOf_snoc c.tr [46] mm ee [46]
  rw [← hts] at F
  have hrow : RowOk ([46] ++ mm) := ⟨mm, rfl, hmm⟩
  have hsum : ((c.tr ++ [([46] ++ mm, ee)]).map fun q : List Nat × List Nat => (q.1.length : Int)).sum = fr8 := by
    rw [sum_snoc, hp.m]
    simp only [List.length_append, List.length_cons, List.length_nil]
    omega
  have hlen : (c.tr ++ [([46] ++ mm, ee)]).length = c.pp.length + 1 := by
    rw [List.length_append, hp.rz]; rfl
  have q3 := hp.f
  have q4 := hp.z
  have q6 := hp.p.length
  have q1 := hp.kz
  have hbe : ((c.tr ++ [([46] ++ mm, ee)]).map fun q : List Nat × List Nat => (q.1.length : Int)).sum + t * ((c.tr ++ [([46] ++ mm, ee)]).length : Int) = be8 := by
    rw [hsum, hlen, e2]
    congr 1
  have N1 := kst_newsOf N s5_perm
  rw [show c.rv ++ [Value.str (strOf (46 :: mm)) ra, Value.str (Str.ofString ".") rb] = (c.rv ++ [Value.str (strOf ([46] ++ mm)) ra]) ++ [Value.str (strOf [46]) rb] by rw [dot_eq, List.append_assoc]; rfl] at N1
  have oK : ∀ q ∈ tl7 ++ news, q.1 ≠ kl := off_tail (fun q hq => (hn7 q hq).2.2) hnK
  have oP : ∀ q ∈ tl7 ++ news, q.1 ≠ pl := off_tail (fun q hq => (hn7 q hq).2.1) hnP
  have hb1 := hp.b
  have hok' : TextOk (c.tr ++ [([46] ++ mm, ee)]) [46] := by
    refine ⟨fun q hq => ?_, hp.o.2⟩
    rcases List.mem_append.mp hq with hq | hq
    · exact hp.o.1 q hq
    · rw [List.mem_singleton.mp hq]; exact ⟨hrow, hee⟩
  have hsm' : ∀ q ∈ c.tr ++ [([46] ++ mm, ee)], Small q.1 := by
    intro q hq
    rcases List.mem_append.mp hq with hq | hq
    · exact hp.sm q hq
    · rw [List.mem_singleton.mp hq]
      intro x hx
      rcases List.mem_append.mp hx with hx | hx
      · rw [List.mem_singleton.mp hx]; decide
      · exact hms x hx
  have hrv' : StrsAre (c.rv ++ [Value.str (strOf ([46] ++ mm)) ra]) ((c.tr ++ [([46] ++ mm, ee)]).map fun q : List Nat × List Nat => strOf q.1) := by
    rw [List.map_append]
    exact StrsAre.append' hp.r (.cons _ _ .nil)
  refine mail_s23 w mean mg mb stmts sc hst t tt ht0 ht1 (c.tr ++ [([46] ++ mm, ee)]) hok' (by simp) hsm' (by omega) (by omega) dp un gd cn cs a ccd cl outer base g L0 L rl pl kl _ _ _ E hC1 hC2 hC3 B X T hk hd' hu st1 (c.rv ++ [Value.str (strOf ([46] ++ mm)) ra]) rb 0 oc1 oc2 ho1 ho2 hrv' fr8 tf c.kv c.ks c.kc (c.pv ++ [Value.ref c.a]) c.pc ((c.a, tupO c.x c.y c.tx c.ty) :: (128, tabObj p7) :: d :: (tl7 ++ news)) hp.k (by omega) (by simp only [List.length_append, List.length_cons, List.length_nil]; omega) ?_ ?_ ?_ ?_ ?_ ?_ F N1 ?_
  · rfl
  · show kstB _ _ _ = _
    exact hm0
  · simp only [List.forall_mem_cons]
    exact ⟨Nat.ne_of_lt hL, Nat.ne_of_gt hkp, Nat.ne_of_gt (Nat.lt_trans hkp hrl), Nat.ne_of_lt (by omega), hb1.2.2, Nat.ne_of_lt hL1, hd1.1, oK⟩
  · simp only [List.forall_mem_cons]
    exact ⟨Nat.ne_of_gt hrl, Nat.ne_of_lt (by omega), hb1.2.1, Nat.ne_of_lt (by omega), hd1.2, oP⟩
  · exact Nat.ne_of_lt (by omega)
  · exact Nat.ne_of_lt hkp
  · intro h9 tk9 D t1 t2 kv' kc' pc' y1 y2 y3 tb hi9 F9 N9 hD9
    rw [hbe] at hi9 F9 N9
    refine w_end (c' := MlS.mk (c.pv ++ [Value.ref c.a]) D fr8 be8 t1 t2 (c.pp ++ [(c.x, c.y)]) pc' kv' (insAt (insAt c.ks (bsL c.ks fr8 c.ks.length 0 c.ks.length).toNat fr8) (bsR (insAt c.ks (bsL c.ks fr8 c.ks.length 0 c.ks.length).toNat fr8) be8 (insAt c.ks (bsL c.ks fr8 c.ks.length 0 c.ks.length).toNat fr8).length 0 (insAt c.ks (bsL c.ks fr8 c.ks.length 0 c.ks.length).toNat fr8).length).toNat be8) kc' rl (c.rv ++ [Value.str (strOf ([46] ++ mm)) ra]) rb 0 (c.tr ++ [([46] ++ mm, ee)]) st2 p7 ((D, tupO fr8 be8 t1 t2) :: tl7) k8) F9 N9 ?_ ?_ s5_end ?_ ?_
    · intro p hp
      simp only [mlF, List.mem_cons, List.not_mem_nil, or_false] at hp
      rcases hp with rfl | rfl <;> rfl
    · intro z h1 h2
      have hr := h1 _ (List.Mem.head _)
      have ht := h1 _ (List.Mem.tail _ (List.Mem.head _))
      have h2' := h2
      simp only [mlN, List.contains_cons, List.contains_nil, Bool.or_false, Bool.or_eq_false_iff, beq_eq_false_iff_ne, ne_eq] at h2'
      obtain ⟨k1, k2, k3, k4, k5, k6, k7⟩ := h2'
      dsimp only at hr ht
      show (if z = Str.ofString "begun" then _ else _) = _
      rw [if_neg k7, if_neg k6, if_neg k5, if_neg k4, if_neg hr]
      show (if z = Str.ofString "text" then _ else _) = _
      rw [if_neg ht, if_neg k3, if_neg k2, if_neg k1]
      show (if z = Str.ofString "rows" then _ else if z = Str.ofString "text" then _ else _) = _
      rw [if_neg hr, if_neg ht]
      show (if mlN.contains z = true then u5 z else m₀ z) = _
      rw [if_neg (by rw [h2]; exact Bool.false_ne_true)]
    · have hsub : ∀ q ∈ c.tl ++ news, q ∈ ((D, tupO fr8 be8 t1 t2) :: tl7) ++ news := fun q hq => by
        rcases List.mem_append.mp hq with hq | hq
        · exact List.mem_append_left _ (.tail _ (hs7 q hq))
        · exact List.mem_append_right _ hq
      have dK : @LT.lt Nat _ kl D := hD9 _ (.head _)
      have dP : @LT.lt Nat _ pl D := hD9 _ (.tail _ (.tail _ (.head _)))
      have hDall : @LT.lt Nat _ 128 D ∧ D ≠ pl ∧ D ≠ kl := ⟨Nat.lt_trans hL1 dK, Nat.ne_of_gt dP, Nat.ne_of_gt dK⟩
      have hkz : (insAt (insAt c.ks (bsL c.ks fr8 c.ks.length 0 c.ks.length).toNat fr8) (bsR (insAt c.ks (bsL c.ks fr8 c.ks.length 0 c.ks.length).toNat fr8) be8 (insAt c.ks (bsL c.ks fr8 c.ks.length 0 c.ks.length).toNat fr8).length 0 (insAt c.ks (bsL c.ks fr8 c.ks.length 0 c.ks.length).toNat fr8).length).toNat be8).length = 2 * (c.pp ++ [(c.x, c.y)]).length + 1 := by
        rw [insAt_length, insAt_length, q1, List.length_append, List.length_cons, List.length_nil]; omega
      have hpl : (c.pp ++ [(c.x, c.y)]).length = c.pp.length + 1 := by rw [List.length_append]; rfl
      refine ⟨e6, PairsAre.append (hp.p.mono hsub) (.cons (hsub _ hp.a) .nil), .head _, hi9, hkz, hrv', hlen.trans hpl.symm, hok', hsm', ?_, hsum, ?_, hT7.mono fun q hq => .tail _ hq, fun q hq => ?_, ⟨Nat.lt_trans (Nat.lt_trans hL1 hkp) hrl, Nat.ne_of_gt hrl, Nat.ne_of_gt (Nat.lt_trans hkp hrl)⟩, hDall⟩
      · dsimp only; omega
      · dsimp only; omega
      · rcases List.mem_cons.mp hq with rfl | hq
        · exact hDall
        · exact hn7 q hq
    · dsimp only; omega
end
section
theorem ad1 {a : Nat} (h : a ≤ 99990) : a ≤ 100000 := Nat.le_trans h (by decide)
theorem ad2 {a b : Nat} (h : a ≤ 99990) (h2 : b ≤ 2) : a + b ≤ 100000 := by omega
theorem ad3 {a b : Nat} (h : a ≤ 99990) (h2 : b ≤ 2) : a + b + (0 + 1) ≤ 100000 := by omega
theorem ad4 {a b : Nat} (h : a + b ≤ 99990) : 0 + 1 + b ≤ 100000 := by omega
theorem toks_one {M : Model} {A : Around} {α : Type} {c : Sem α} {Q : α → Shared → Prop} {E : Value → Shared → Prop} {h : Heap} {g : Array GenState} {d : Drawn} {n : Nat} {o : OsState} (k : ∀ t : Nat, wpAny M A c Q E { heap := h, gens := g, drawn := d, toks := t, os := o }) : wpAny M A c Q E { heap := h, gens := g, drawn := d, toks := n + 1, os := o } := k _
local macro_rules | `(tactic| walk_at "execs cons") => `(tactic| (with_reducible refine Mine.toks_one ?_; intro tk))
local macro_rules | `(tactic| walk_at "execs nil") => `(tactic| (with_reducible refine Mine.toks_one ?_; intro tk))
theorem mail_perm {α : Type} {a p k r c1 c2 t d : α} {l : List α} : ∀ q ∈ t :: p :: d :: l, q ∈ a :: p :: k :: r :: c1 :: c2 :: t :: d :: l := by
  intro q hq
  simp only [List.mem_cons] at hq ⊢
  rcases hq with h | h | h | h <;> simp [h]
theorem mail_t (w : World) (mean : ExcName → Option Value) (mg mb : Str → Option Value) (t : Int) (tt : Tok) (b : Int) (tb : Tok) (dl : Addr) (dv : List Value) (ds : List Int) (dc : Nat) (news : Led) (p128 : Array Value) (hT : Tab 143 60 (Str.ofString "_law_mail.<locals>.<lambda>") news p128) (res : List (Int × Int)) (hdl : @LT.lt Nat _ 128 dl) (hn128 : ∀ q ∈ news, q.1 ≠ 128) (hres : mlS t b 15 [] 0 0 [0] = some res) (hdr : IntsAre dv ds) (hl0 : 1 ≤ ds.length) (hl1 : ds.length ≤ 20) (ht0 : 1 ≤ t) (ht1 : t ≤ 3) (hb0 : 8 ≤ b) (hb1 : b ≤ 11) :
    Con Challenge.rw_pe0223_01.row.prog w (Mine.hd.heap_39 w.params) mean mg mb 131 [.int t tt, .int b tb, .ref dl] ((128, tabObj p128) :: (dl, listOf dv.toArray dc) :: news) 60 1500 (fun r news' => ∃ pl pv pc tl p, r = .ref pl ∧ news' = (128, tabObj p) :: (pl, listOf pv.toArray pc) :: (dl, listOf dv.toArray dc) :: (tl ++ news) ∧ PairsAre (tl ++ news) pv res ∧ (∀ q ∈ tl, @LT.lt Nat _ 128 q.1) ∧ @LT.lt Nat _ 128 pl) := by
  w_top off
  k_with_none
  k_fill
  intro dp un gd cn cs a ccd cl outer A₀ base h₀ L m s Q E hC1 hC2 hC3 B F X N T hk hd' hu hret
  refine wpAny_call ?_
  first | ((k_dflt cell_enter)) | ((k_dflt (refine code_defC (by k_asm) (by k_asm) (by k_asm) (by k_asm) (by k_asm) (by exact rfl) (by exact rfl) (by assumption) (by k_is) (by k_is) (by ktr_room) (by exact BindsTo.of_eq rfl) (by exact rfl) (by decide +kernel) ?_ (by exact rfl) (by exact rfl) (by exact rfl); k_whole; intro zg' zL' zh' ztk' zcells' zFG' zF' zN' zY' zB' zX' zT' zl1; (try k_lt zl1); k_cells zY'; (try simp only [List.cons_append, List.nil_append] at zN'); (try dsimp only); (try k_lift zB'); (try k_fold))))
  obtain ⟨_, _, hAL⟩ := (‹_ ∧ _ ∧ AllLt _ news›)
  k_with "exec While Compare cons nil" => refine Mine.stop_out ?_
  k_steps
  refine stop_in ?_
  k_dflt (refine' while_ml t b res (by assumption) (by assumption) (by rfl) (by rfl) hres hT ⟨by omega, by exact Nat.ne_of_lt (by omega), by exact Nat.ne_of_gt (by omega)⟩ ⟨by omega, by exact Nat.ne_of_lt (by omega), by exact Nat.ne_of_lt (by omega)⟩ (ne_allLt (by tbn_find) (Nat.le_refl _)) (ne_allLt (by tbn_find) (Nat.le_refl _)) (by omega) ?_ (by passes_own))
  intro hnK hnP hkp
  rintro ⟨pv5, a5, x5, y5, tx5, ty5, pp5, pc5, kv5, ks5, kc5, rl5, rv5, rt5, rc5, tr5, tok5, p5, tl5, fuel5⟩ u5 h5 tk5 hp5 F5 N5
  dsimp only [mlL, mlF, tupO] at N5 F5
  have q1 := hp5.kz
  have q2 := hp5.rz
  have q3 := hp5.f
  have q4 := hp5.z
  have q5 := hp5.k
  have q6 := hp5.p.length
  dsimp only at q1 q2 q3 q4 q5 q6
  k_with "subscriptTail Name UnaryOp ref int" => (((with_reducible show wpAny _ _ (subscriptTail _ _ (Value.ref _) (Value.int _ _)) _ _ _); (with_unfolding_all refine Mine.item_last (by k_asm) (by k_mem) (by omega) ?_)))
  k_with "call type:list" => (((with_reducible show wpAny _ _ (call (Value.type _) [Value.ref _]) _ _ _); (rename IsRange _ _ _ _ _ _ _ _ => rgX); (with_unfolding_all refine kll_range (by rfl) (by k_asm) (by k_asm) (by exact rgX) (by exact small_one (by omega) (by omega) (by omega) (by omega)) (by exact rangeSize_nat _ _) (by (refine Nat.le_trans (m := 1000) ?_ ?_; omega; exact Nat.le_of_ble_eq_true rfl)) ?_); intro zD' zvs' zc' zh' ztk' zF' zN' zl1 zhI'; (try k_lt zl1)))
  have q7 := hp5.n
  have q8 := hp5.T
  have q9 := hp5.b
  have q10 := hp5.l
  dsimp only at q7 q8 q9 q10
  have o128 := off_tail (fun q hq => Nat.ne_of_gt (q7 q hq).1) hn128
  k_with "eval Lambda" => refine Mine.stop_out ?_
  k_steps
  · refine stop_in ?_
    refine kla_eval rfl ?_
    (rename News _ _ _ _ => N6)
    refine lam_both (pre := [_, _, _, _, _, _, _, _]) (tl := tl5) (news := news) (by k_asm) (kst_newsOf N6 up7) (by k_asm) (by kn_code) rfl q8 (off8 ?_ ?_ ?_ ?_ ?_ ?_ ?_ ?_ o128) rfl ?_
    any_goals exact Nat.ne_of_gt (by omega)
    intro f7 c7 oc7 vs7 t7 ct7 h7 tk7 p7 tl7 F7 N7 m7 d7 v7 T7 s7 n7 l7
    clear N6
    simp only [List.cons_append, List.nil_append] at N7
    obtain ⟨k8, fr8, be8, e1, e2, e3, e4, e5, e6⟩ := hp5.next (by assumption)
    dsimp only at e1 e2 e3 e4 e5 e6
    subst e3
    have hz7 : (rangeKs 0 ((ks5.length : Int) - 0).toNat).length ≤ 1000 := by rw [rangeKs_length]; omega
    k_with_none
    k_with "call ref" => refine Mine.stop_out ?_
    k_steps
    refine stop_in ?_
    (rename News _ _ _ _ => N8)
    k_dflt (refine' conk_use (bisect_key_c _ _ _ _ _ _ _ _ _ _ _ _ (fun i => ks5.getD i.toNat 0 - i) _ _ _ _ (List.Mem.head _) (by assumption) hz7 ⟨fun i t hi => key_lam _ _ _ _ _ _ _ (by kernel_rfl) _ _ _ _ _ _ _ _ _ _ _ _ _ _ _ _ (.tail _ (.head _)) ?mc d7 v7 ?m2 (by assumption) ?mk q5 (by omega) i t ?i0 ?i1⟩) ?b1 ?b2 ?b3 ?B ?F ?X N8 ?T ?K ?d ?u perm3 ?_)
    case T => k_asm
    case X => k_asm
    case mc => repeat (first | exact m7 | refine List.Mem.tail _ ?_)
    case m2 => repeat (first | exact List.Mem.head _ | refine List.Mem.tail _ ?_)
    case mk => repeat (first | exact List.Mem.head _ | refine List.Mem.tail _ ?_)
    case i0 => exact (mem_rangeKs hi).1
    case i1 => have := (mem_rangeKs hi).2; omega
    case b1 => k_asm
    case b2 => k_asm
    case b3 => k_asm
    case B => k_asm
    case F => k_asm
    case K => rfl
    case d => ktr_room
    case u => ktr_units
    rintro r9 n9 h9 tk9 ⟨t9, e9, e9'⟩ F9 N9
    subst e9 e9'
    clear N8
    rw [keyed_eq ks5, ← e1]
    dsimp only
    have N9' := kst_newsOf N9 drop2
    clear N9
    have o7 : ∀ q ∈ tl7 ++ news, q.1 ≠ 128 := off_tail (fun q hq => by
      rcases n7 q hq with h | h
      · exact Nat.ne_of_gt (q7 q h).1
      · exact Nat.ne_of_gt h.1) hn128
    have q11 := hdr.length
    have r1 : 0 ≤ ((((pv5 ++ [Value.ref a5]).length : Nat) : Int).fmod (dv.length : Int)) := Int.fmod_nonneg_of_pos _ (by omega)
    have r2 : ((((pv5 ++ [Value.ref a5]).length : Nat) : Int).fmod (dv.length : Int)) < (dv.length : Int) := Int.fmod_lt_of_pos _ (by omega)
    have r3 := Int.fmod_nonneg_of_pos (ds.getD ((((pv5 ++ [Value.ref a5]).length : Nat) : Int).fmod (dv.length : Int)).toNat 0) (b := 4) (by decide)
    have r4 := Int.fmod_lt_of_pos (ds.getD ((((pv5 ++ [Value.ref a5]).length : Nat) : Int).fmod (dv.length : Int)).toNat 0) (b := 4) (by decide)
    have r5 := Int.fmod_nonneg_of_pos ((ds.getD ((((pv5 ++ [Value.ref a5]).length : Nat) : Int).fmod (dv.length : Int)).toNat 0).fdiv 4) (b := 3) (by decide)
    have r6 := Int.fmod_lt_of_pos ((ds.getD ((((pv5 ++ [Value.ref a5]).length : Nat) : Int).fmod (dv.length : Int)).toNat 0).fdiv 4) (b := 3) (by decide)
    k_with_none
    k_with "call builtin:len" => (((with_reducible show wpAny _ _ (call (Value.builtin "len") [Value.ref _]) _ _ _); k_dflt (refine Mine.len_P (by k_asm) (by repeat (first | exact List.Mem.head _ | refine List.Mem.tail _ ?_)) (by ((try simp only [List.length_append, List.length_cons, List.length_nil]); omega)) ?_); intro zt8 ztk8))
    k_with "subscriptTail Name BinOp ref int" => (((with_reducible show wpAny _ _ (subscriptTail _ _ (Value.ref _) (Value.int _ _)) _ _ _); (with_unfolding_all refine Mine.item_K (by k_asm) (by repeat (first | exact List.Mem.head _ | refine List.Mem.tail _ ?_)) (by assumption) (by omega) (by omega) (by omega) ?_); intro zt8))
    k_with "subscriptTail Name UnaryOp ref int" => (((with_reducible show wpAny _ _ (subscriptTail _ _ (Value.ref _) (Value.int _ _)) _ _ _); (with_unfolding_all refine Mine.item_last (by k_asm) (by k_mem) (by omega) ?_)))
    k_with "binaryOp Add str str" => refine Mine.stop_out ?_
    k_steps
    refine stop_in ?_
    obtain ⟨cc, hcc, hmul⟩ := more_eq _ (fr8 - x5 - 1) r3 r4
    (rename Fr _ _ _ _ => F10)
    have hml : (List.replicate (fr8 - x5 - 1).toNat cc).length = (fr8 - x5 - 1).toNat := List.length_replicate ..
    have hmp : Plain (List.replicate (fr8 - x5 - 1).toNat cc) := fun x hx => by rw [List.eq_of_mem_replicate hx]; exact ⟨hcc.1, hcc.2.1⟩
    have hmsm : Small (List.replicate (fr8 - x5 - 1).toNat cc) := fun x hx => by rw [List.eq_of_mem_replicate hx]; exact hcc.2.2
    generalize List.replicate (fr8 - x5 - 1).toNat cc = mm at hmul hml hmp hmsm
    rw [hmul] at F10 ⊢
    have hlt := textOf_len tr5 [46] fun p hp => (hp5.o.1 p hp).2
    have hm5 := hp5.m
    dsimp only at hm5
    rw [hm5] at hlt
    have hl46 : ([46] : List Nat).length = 1 := rfl
    have hA1 : (textOf tr5 [46]).length + mm.length ≤ 99990 := by omega
    k_with_none
    k_with "call builtin:len" => (((with_reducible show wpAny _ _ (call (Value.builtin "len") [Value.ref _]) _ _ _); k_dflt (refine Mine.len_P (by k_asm) (by repeat (first | exact List.Mem.head _ | refine List.Mem.tail _ ?_)) (by ((try simp only [List.length_append, List.length_cons, List.length_nil]); omega)) ?_); intro zt8 ztk8))
    k_with "subscriptTail Name UnaryOp ref int" => (((with_reducible show wpAny _ _ (subscriptTail _ _ (Value.ref _) (Value.int _ _)) _ _ _); (with_unfolding_all refine Mine.item_last (by k_asm) (by k_mem) (by omega) ?_)))
    k_with "binaryOp Add str str" => (((with_reducible show wpAny _ _ (binaryOp _ (Value.str _ _) (Value.str _ _)) _ _ _); (first | with_reducible refine Mine.addSS ?_ ?_ | with_reducible refine Mine.addSL [46] (by decide +kernel) ?_ ?_ | with_reducible refine Mine.addSL [10] (by decide +kernel) ?_ ?_ | with_reducible refine Mine.addSL [13] (by decide +kernel) ?_ ?_ | with_reducible refine Mine.addSL [13, 10] (by decide +kernel) ?_ ?_); (focus ((try simp only [List.length_append, List.length_cons, List.length_nil]); first | exact Mine.ad1 hA1 | exact Mine.ad2 hA1 (by assumption) | exact Mine.ad3 hA1 (by assumption) | exact Mine.ad4 hA1 | omega)); intro zt8 ztk8))
    have q12 := hp5.r.len_eq
    rw [List.length_map] at q12
    dsimp only at q12
    k_with "subscriptTail Name BinOp ref int" => ((with_reducible show wpAny _ _ (subscriptTail _ _ (Value.ref _) (Value.int _ _)) _ _ _); (with_unfolding_all refine' Mine.item_end ?eN ?em ?eh0 ?eh1 ?_; (case eN => k_asm); (case em => repeat (first | exact List.Mem.head _ | refine List.Mem.tail _ ?_)); (case eh0 => omega); (case eh1 => omega)); intro e8 t8 he8; have hel8 := Mine.EndOk.len he8)
    k_with "subscriptTail Name Slice ref ref" => (((with_reducible show wpAny _ _ (subscriptTail _ _ (Value.ref _) (Value.ref _)) _ _ _); k_dflt (refine Mine.slice_init (by k_asm) (by k_asm) (by repeat (first | exact List.Mem.head _ | refine List.Mem.tail _ ?_)) (by kmk_part) (by kmk_part) (by ((try simp only [List.length_append, List.length_cons, List.length_nil]); omega)) ?_ (by with_unfolding_all rfl) (by kmk_pure)); intro zD' zh' zF' zN' zl1; (try k_lt zl1)))
    k_with "binaryOp Add ref ref" => (((with_reducible show wpAny _ _ (binaryOp _ (Value.ref _) (Value.ref _)) _ _ _); k_dflt (refine Mine.add_P (by k_asm) (by k_asm) (by repeat (first | exact List.Mem.head _ | refine List.Mem.tail _ ?_)) (by repeat (first | exact List.Mem.head _ | refine List.Mem.tail _ ?_)) (by ((try simp only [List.length_append, List.length_cons, List.length_nil]); omega)) ?_); intro zD' zh' zF' zN' zl1; (try k_lt zl1)))
    k_with "execs cons" => ((with_reducible show wpAny _ _ (execs (Stmt.For _ _ _ _ _ :: _) _) _ _ _); refine Mine.stop_out ?_)
    k_steps
    refine stop_in ?_
    have hms : Small mm := hmsm
    (rename Fr _ _ _ _ => F13)
    (rename News _ _ _ _ => N13)
    refine mail_s5 w mean mg mb _ _ (by kernel_rfl) t b tt ht0 ht1 res (MlS.mk pv5 a5 x5 y5 tx5 ty5 pp5 pc5 kv5 ks5 kc5 rl5 rv5 rt5 rc5 tr5 tok5 p5 tl5 (k8 + 1)) mm e8 hmp hms he8 k8 fr8 be8 (by dsimp only; omega) e2 rfl e4 e5 e6 _ _ _ _ _ _ _ _ _ _ _ _ _ _ _ _ _ _ _ _ _ _ _ _ _ _ hp5 hnK hnP hkp T7 s7 (fun q hq => ?_) ⟨Nat.ne_of_lt (by omega), Nat.ne_of_lt (by omega)⟩ (by omega) (by omega) (by omega) (by k_asm) (by k_asm) (by k_asm) (by k_asm) (by k_asm) (by k_asm) (by assumption) (by omega) (by omega) _ _ _ _ _ (dl, tabObj #[]) (dl, tabObj #[]) _ _ _ _ _ (by assumption) (by assumption) _ _ _ ⟨_, _, rfl⟩ F13 (by rfl) N13
    rcases n7 q hq with h | h
    · exact q7 q h
    · exact ⟨h.1, Nat.ne_of_gt (h.2 _ (.tail _ (.tail _ (.head _)))), Nat.ne_of_gt (h.2 _ (.tail _ (.tail _ (.tail _ (.head _)))))⟩
  · have hst5 := hp5.stop (by assumption)
    dsimp only at hst5
    refine hret _ _ _ _ ⟨_, _, _, tl5, _, rfl, rfl, ?_, fun q hq => (q7 q hq).1, by omega⟩ (by k_asm) (kst_newsOf (by k_asm) mail_perm)
    rw [← hst5]
    exact PairsAre.append hp5.p (.cons hp5.a .nil)
end
end Mine
end
section
namespace Mine
noncomputable def resOf (t b : Int) : List (Int × Int) := (mlS t b 15 [] 0 0 [0]).getD []
theorem t_lo (s : Int) : 1 ≤ 1 + s.fmod 3 := by have := Int.fmod_nonneg_of_pos s (b := 3) (by decide); omega
theorem t_hi (s : Int) : 1 + s.fmod 3 ≤ 3 := by have := Int.fmod_lt_of_pos s (b := 3) (by decide); omega
theorem b_lo (s : Int) : 8 ≤ 8 + s.fmod 4 := by have := Int.fmod_nonneg_of_pos s (b := 4) (by decide); omega
theorem b_hi (s : Int) : 8 + s.fmod 4 ≤ 11 := by have := Int.fmod_lt_of_pos s (b := 4) (by decide); omega
theorem res_ok {t b : Int} (h1 : 1 ≤ t) (h2 : t ≤ 3) (h3 : 8 ≤ b) (h4 : b ≤ 11) : MailOk t b (resOf t b) := by
  obtain ⟨res, h⟩ := mail_all h1 h2 h3 h4
  have : resOf t b = res := by unfold resOf; rw [h.s]; rfl
  rw [this]; exact h
theorem off3 {P a b c d : Addr} {oa ob oc od : Obj} (h1 : a ≠ P) (h2 : b ≠ P) (h3 : c ≠ P) (h4 : d ≠ P) {e : Addr} {oe : Obj} (h5 : e ≠ P) : ∀ q ∈ ([(a, oa), (b, ob), (c, oc), (d, od), (e, oe)] : Led), q.1 ≠ P := by
  intro q hq
  simp only [List.mem_cons, List.not_mem_nil, or_false] at hq
  rcases hq with rfl | rfl | rfl | rfl | rfl <;> assumption
theorem law_perm {α : Type} {D l d1 d2 a b c : α} : ∀ q ∈ c :: D :: [l, d1, d2, a, b], q ∈ [D, l, d1, d2, a, b, c] := by
  intro q hq
  simp only [List.mem_cons, List.not_mem_nil, or_false] at hq ⊢
  rcases hq with h | h | h | h | h | h | h <;> simp [h]
theorem pv_snoc {led : Led} {pv : List Value} {ps : List (Int × Int)} (h : PairsAre led pv ps) (hn : 1 ≤ ps.length) : ∃ pv' v, pv = pv' ++ [v] := by
  have := h.length
  rcases List.eq_nil_or_concat pv with e | ⟨l, v, e⟩
  · rw [e] at this; simp at this; omega
  · exact ⟨l, v, by simpa using e⟩
theorem PairsAre.init {led : Led} {pv : List Value} {v : Value} {ps : List (Int × Int)} (h : PairsAre led (pv ++ [v]) ps) : PairsAre led pv ps.dropLast := by
  have hl := h.length
  have := h.take pv.length
  rw [List.take_left] at this
  rw [List.length_append, List.length_cons, List.length_nil] at hl
  rw [List.dropLast_eq_take, ← hl, show pv.length + 0 + 1 - 1 = pv.length by omega]
  exact this
noncomputable def pairD (p : Int × Int) : PyData := .tuple [.int p.1, .int p.2]
theorem reads_pairs {h₀ h : Heap} {L : Addr} {led : Led} (N : News h₀ L h led) {vs : List Value} {ps : List (Int × Int)} (hp : PairsAre led vs ps) : ReadsAll h vs (ps.map pairD) [] := by
  induction hp with
  | nil => exact .nil
  | cons hm _ ih =>
    exact readsAll_cons_val (reads_tuple_at (N _ hm).1 rfl rfl (ReadsAll.cons (as := []) (bs := []) (Reads.int _ _) (ReadsAll.cons (as := []) (bs := []) (Reads.int _ _) ReadsAll.nil))) ih
theorem lay_pairs : ∀ ps : List (Int × Int), PyData.canLayAll0 (ps.map pairD) = true
  | [] => rfl
  | p :: ps => by
    rw [List.map_cons, PyData.canLayAll0, lay_pairs ps]; rfl
theorem depth_pairs : ∀ ps : List (Int × Int), PyData.depthAll (ps.map pairD) ≤ 1
  | [] => Nat.zero_le _
  | p :: ps => by
    have := depth_pairs ps
    simp only [List.map_cons, PyData.depthAll, pairD, PyData.depth]
    omega
theorem ne_pairs {prog : Program} {w : World} {A : Around} {E : Value → Shared → Prop} {s : Shared} {h₀ : Heap} {L a b : Addr} {news : Led} {vs us : List Value} {ps : List (Int × Int)} {n k : Nat} {Q : Value → Shared → Prop} (N : News h₀ L s.heap news) (h1 : (a, listOf vs.toArray n) ∈ news) (h2 : (b, listOf us.toArray k) ∈ news) (i1 : PairsAre news vs ps) (i2 : PairsAre news us ps) (hu : A.units + 64 < cLine) (h : Q (.bool false) s) :
    wpAny (model prog w) A (compareOp .NotEq (.ref a) (.ref b)) Q E s := by
  have hl : SeqAt.shaped (.list (ps.map pairD)) = true := by
    have e1 := lay_pairs ps
    have e2 := depth_pairs ps
    unfold SeqAt.shaped
    rw [PyData.canLay0, e1, PyData.depth]
    simp only [Bool.true_and, decide_eq_true_eq]
    omega
  refine ne_dataH (reads_list_at (N _ h1).1 rfl rfl (reads_pairs N i1)) (reads_list_at (N _ h2).1 rfl rfl (reads_pairs N i2)) hl hl hu ?_
  rw [SeqAt.eqv_refl _ (SeqAt.canLay_of_shaped hl)]
  exact h
theorem law_pv {led : Led} {pv : List Value} {s s' : Int} (h : PairsAre led pv (resOf (1 + s.fmod 3) (8 + s'.fmod 4))) : (∃ pv' v, pv = pv' ++ [v]) ∧ MailOk (1 + s.fmod 3) (8 + s'.fmod 4) (resOf (1 + s.fmod 3) (8 + s'.fmod 4)) := by
  have hm := res_ok (t_lo s) (t_hi s) (b_lo s') (b_hi s')
  exact ⟨pv_snoc h hm.n.1, hm⟩
theorem pairs_only {tl br : Led} {vs : List Value} {ps : List (Int × Int)} (h : PairsAre (tl ++ br) vs ps) (hb : ∀ q ∈ br, q.2.cls ≠ .type "tuple") : PairsAre tl vs ps := by
  induction h with
  | nil => exact .nil
  | @cons a x y t u vs ps hm _ ih =>
    refine .cons (t := t) (u := u) ?_ ih
    rcases List.mem_append.mp hm with h | h
    · exact h
    · exact absurd rfl (hb _ h)
theorem law_keep {α : Type} {l9 D p pl D1 x1 d x3 t54 t47 : α} {tl9 tl : List α} : ∀ q ∈ pl :: d :: t47 :: t54 :: p :: tl, q ∈ l9 :: (tl9 ++ (D :: p :: pl :: D1 :: (tl ++ [x1, d, x3, t54, t47]))) := by
  intro q hq
  simp only [List.mem_cons, List.mem_append, List.not_mem_nil, or_false] at hq ⊢
  rcases hq with h | h | h | h | h | h <;> simp [h]
theorem t_lo_of {s b : Int} {r : List (Int × Int)} (_h : MailOk (1 + s.fmod 3) b r) : 1 ≤ 1 + s.fmod 3 := t_lo s
theorem t_hi_of {s b : Int} {r : List (Int × Int)} (_h : MailOk (1 + s.fmod 3) b r) : 1 + s.fmod 3 ≤ 3 := t_hi s
theorem item_at {prog : Program} {w : World} {A : Around} {E : Value → Shared → Prop} {s : Shared} {h₀ : Heap} {L D : Addr} {news : Led} {vs : List Value} {cnt : Nat} {k : Int} {u : Tok} {x : Value} {value slice : Expr} {Q : Value → Shared → Prop} (N : News h₀ L s.heap news) (hm : (D, listOf vs.toArray cnt) ∈ news) (h0 : 0 ≤ k) (h1 : k < 2 ^ 63) (hx : vs[k.toNat]? = some x)
    (h : Q x s) (hs : subscripted slice false (.ref D) (.int k u) = operate [.ref D, .int k u] (getItem (.ref D) (.int k u)) := by with_unfolding_all rfl) (hg : ∀ r, letTemporaryGo value (.ref D) r = pure () := by intro _; with_unfolding_all rfl) :
    wpAny (model prog w) A (subscriptTail value slice (.ref D) (.int k u)) Q E s :=
  item_listL ⟨_, (N _ hm).1, rfl, _, rfl⟩ h0 h1 hx h hs hg
theorem law_perm2 {α : Type} {D l pl d t47 t54 : α} {tl : List α} : ∀ q ∈ D :: t47 :: t54 :: ([] ++ (l :: pl :: tl)), q ∈ D :: l :: pl :: d :: t47 :: t54 :: tl := by
  intro q hq
  simp only [List.mem_cons, List.nil_append] at hq ⊢
  rcases hq with h | h | h | h | h | h <;> simp [h]
theorem law_t : Challenge.rw_pe0223_01.Holds := hd (by
  w_top off
  k_with_none
  k_go0
  all_goals (try k_fold)
  k_with "call ref" => refine Mine.stop_out ?_
  k_steps
  refine stop_in ?_
  (rename News _ _ _ _ => N1)
  (rename Fr _ _ _ _ => F1)
  k_dflt (refine' con_use (mail_t _ _ _ _ _ _ _ _ _ _ _ _ _ _ (.inl rfl) _ ?hdl ?hn (res_ok (t_lo _) (t_hi _) (b_lo _) (b_hi _)).s ?hi ?h0 ?h1 (t_lo _) (t_hi _) (b_lo _) (b_hi _)) ?b1 ?b2 ?b3 ?B ?F ?X N1 ?T ?K ?d ?u law_perm ?_)
  case T => k_asm
  case X => k_asm
  case B => k_asm
  case b1 => first | k_asm | kn_code
  case b2 => first | k_asm | kn_code
  case b3 => first | k_asm | kn_code
  case F => k_asm
  case K => rfl
  case d => first | ktr_room | k_room | decide
  case u => first | ktr_units | decide
  case hdl => omega
  case hn =>
    have hq8 := (‹_ ≠ _ ∧ _ ≠ _ ∧ _ ≠ _ ∧ _ ≠ _›)
    exact off3 (Nat.ne_of_gt (by omega)) (Ne.symm hq8.2.2.2) (Nat.ne_of_gt (by omega)) (by decide) (by decide)
  case hi => assumption
  case h0 => simp only [List.length_append, List.length_cons, List.length_nil]; omega
  case h1 => simp only [List.length_append, List.length_map, List.length_cons, List.length_nil]; omega
  rintro r8 n8 h8 tk8 ⟨pl, pv, pc, tl, p8, e1, e2, hp8, htl8, hpl8⟩ F8 N8
  subst e1
  subst e2
  obtain ⟨⟨pv', v, rfl⟩, hres⟩ := law_pv hp8
  have hpi := hp8.init
  have hpl := hp8.length
  have hrn := hres.n
  rw [List.length_append, List.length_cons, List.length_nil] at hpl
  k_with_none
  k_with "subscriptTail Name Slice ref ref" => (((with_reducible show wpAny _ _ (subscriptTail _ _ (Value.ref _) (Value.ref _)) _ _ _); k_dflt (refine Mine.slice_init (by k_asm) (by k_asm) (by repeat (first | exact List.Mem.head _ | refine List.Mem.tail _ ?_)) (by kmk_part) (by kmk_part) (by ((try simp only [List.length_append, List.length_cons, List.length_nil]); omega)) ?_ (by with_unfolding_all rfl) (by kmk_pure)); intro zD' zh' zF' zN' zl1; (try k_lt zl1)))
  k_with "call ref" => refine Mine.stop_out ?_
  k_steps
  refine stop_in ?_
  (rename News _ _ _ _ => N2)
  k_dflt (refine' con_use (lost_c _ _ _ _ _ _ _ _ _ (Int.le_trans (by decide) (b_lo _)) (Int.le_trans (b_hi _) (by decide))) ?b1' ?b2' ?b3' ?B' ?F' ?X' N2 ?T' ?K' ?d' ?u' (fun _ h => h) ?_)
  case T' => k_asm
  case X' => k_asm
  case B' => k_asm
  case b1' => first | k_asm | kn_code
  case b2' => first | k_asm | kn_code
  case b3' => first | k_asm | kn_code
  case F' => k_asm
  case K' => rfl
  case d' => first | ktr_room | k_room | decide
  case u' => first | ktr_units | decide
  rintro r9 n9 h9 tk9 ⟨l9, vs9, cnt9, tl9, e1, e2, hp9, hA9⟩ F9 N9
  subst e1
  subst e2
  rw [hres.l] at hpi
  refine ne_pairs N9 (.tail _ (List.mem_append_right _ (.head _))) (.head _) (hpi.mono fun q hq => .tail _ (List.mem_append_right _ (.tail _ (.tail _ (.tail _ (.tail _ hq)))))) (hp9.mono fun q hq => .tail _ hq) (by first | ktr_units | decide) ?_
  have hp10 := pairs_only hp8 (by
    intro q hq
    simp only [List.mem_cons, List.not_mem_nil, or_false] at hq
    rcases hq with rfl | rfl | rfl | rfl | rfl <;> (intro e; first | exact absurd (Value.type.inj e) (by decide) | cases e))
  have N10 := kst_newsOf N9 law_keep
  clear N9 N2
  have hoff47 : ∀ q ∈ tl, @LT.lt Nat _ 54 q.1 := fun q hq => Nat.lt_trans (by decide) (htl8 q hq)
  k_with_none
  k_with "call builtin:len" => (((with_reducible show wpAny _ _ (call (Value.builtin "len") [Value.ref _]) _ _ _); k_dflt (refine Mine.len_P (by k_asm) (by repeat (first | exact List.Mem.head _ | refine List.Mem.tail _ ?_)) (by ((try simp only [List.length_append, List.length_cons, List.length_nil]); omega)) ?_); intro zt8 ztk8))
  k_with "pyIter ref" => refine Mine.stop_out ?_
  k_steps
  refine stop_in ?_
  (rename IsRange _ _ _ _ _ _ _ _ => hR)
  (rename News _ _ _ _ => N11)
  (rename Fr _ _ _ _ => F11)
  have hlen2 : (pv' ++ [v]).length = pv'.length + 1 := by rw [List.length_append]; rfl
  have hsm : Builtin.Range.small 1 (((pv' ++ [v]).length : Nat) : Int) 1 = true := small_one (by decide) (by decide) (by omega) (by omega)
  refine iter_rangeUnr (n := ((((pv' ++ [v]).length : Nat) : Int) - 1).toNat) ?_ hR hsm (rangeSize_nat _ _) F11 N11 ?_
  · rfl
  intro I12 hI12
  refine f_range (σ := Unit) (fun _ => ?led12) (fun _ => []) [] (fun _ _ => True) ?_ ?_ ((((pv' ++ [v]).length : Nat) : Int) - 1).toNat 0 () _ (Nat.zero_add _) trivial ?_ (fun _ h => nomatch h) (fun _ _ _ _ => rfl)
  · rintro t5 k5 i5 ⟨⟩ u5 h5 tk5 hi5 _ F5 N5 off5
    obtain ⟨a6, t6, u6, hv6, hm6⟩ := hp10.at (i5 + 1) (by omega)
    obtain ⟨hk6, hr6⟩ := hres.k (i5 + 1) (by omega) (by omega)
    rw [show ((i5 + 1 : Nat) : Int) = 1 + (i5 : Int) by omega] at hr6
    have N6 := News.cons' N5 (.tail _ (.tail _ (.tail _ (.tail _ (.tail _ hm6)))))
    clear N5
    have ht1 := t_lo_of hres
    have ht2 := t_hi_of hres
    have hv7 := hv6
    rw [show i5 + 1 = (1 + (i5 : Int)).toNat by omega] at hv7
    k_with_none
    k_with "subscriptTail Name Name ref int" => refine item_at (by k_asm) (.tail _ (.tail _ (.head _))) (by omega) (by omega) hv7 ?_
    k_with "call ref" => refine Mine.stop_out ?_
    k_steps
    refine stop_in ?_
    (((with_reducible show wpAny _ _ (call (Value.ref 152) _) _ _ _); k_dflt (refine Mine.con_use2 (by assumption) (by exact fun _ h => h) (by k_asm) (by k_asm) (by exact Mine.at_root_c _ _ _ _ _ _ _ _ _ _ _ _ _ (by omega) (by omega) (by omega) (by omega) (by omega) (by omega) (by omega) (by omega)) (by first | k_asm | kn_code) (by first | k_asm | kn_code) (by first | k_asm | kn_code) (by k_asm) (by k_asm) (by rfl) (by first | ktr_room | k_room | decide) (by first | ktr_units | decide) ?_); rintro zr8 zn8 zh8 ztk8 ⟨ze1, ze2⟩ zF8 zN8; subst ze1; subst ze2; (try dsimp only); (try k_fold)))
    rw [hr6]
    k_with_none
    k_steps
    (rename News _ _ _ _ => nE)
    dsimp only [FPost]
    refine f_end (σ := Unit) (c' := ()) (by assumption) nE ?ek ?er ?eI ?en ?eo (fun _ h => nomatch h) trivial
    case ek => exact fun _ h => nomatch h
    case er => ((intro zz zh1 zh2 zh3; (try simp only [List.forall_mem_cons, List.not_mem_nil, false_implies, implies_true, and_true, ne_eq] at zh2); (try simp only [List.contains_cons, List.contains_nil, Bool.or_false, Bool.or_eq_false_iff, beq_eq_false_iff_ne, ne_eq] at zh3); first | rfl | (simp only [kstB, zh1, zh2, zh3, if_false, List.contains_cons, List.contains_nil, Bool.or_false, Bool.or_eq_true, beq_iff_eq, or_false, false_or, or_self, Bool.false_eq_true, ↓reduceIte]; done) | (simp [kstB, zh1, zh2, zh3]; done)))
    case eI => exact .tail _ (.head _)
    case en => exact fun p hp => .tail _ (.tail _ hp)
    case eo => exact off5
  · rintro ⟨⟩ u5 h5 tk5 _ F5 N5
    k_with_none
    k_with "exec For Name BinOp cons nil" => (with_unfolding_all refine' For_invVF ?fF ?fk1 ?fk2 ?_; (case fF => k_asm); (case fk1 => exact rfl); (case fk2 => exact rfl))
    k_with "pyIter ref" => refine Mine.stop_out ?_
    k_steps
    refine stop_in ?_
    (rename News _ _ _ _ => N13)
    (rename Fr _ _ _ _ => F13)
    have hdr := drawn_ok (by assumption)
    have N14 := kst_newsOf N13 law_perm2
    refine loop_tb ?mA F13 N14 hdr ?mT ?mD
    case mA => rfl
    case mT =>
      rintro I7 v7 r7 ⟨p7, q7, tl7⟩ u7 it7 h7 tk7 hI8 hp7 hit7 F7 N7 off7
      obtain ⟨m7, t7, rfl, hm1, hm2, hi7⟩ := hp7.next
      have ha7 := hp7.a
      have hb7 := hp7.b
      have hn7 := hp7.n
      dsimp only at ha7 hb7 hn7 N7
      have ht1 := t_lo_of hres
      have ht2 := t_hi_of hres
      k_with_none
      k_with "call ref" => refine Mine.stop_out ?_
      k_steps
      refine stop_in ?_
      (rename News _ _ _ _ => N15)
      k_dflt (refine' con_use (told_c _ _ _ _ _ _ _ _ _ _ _ (tab_two ha7) (tab_two hb7) (tb_big hI8 ?lmb hn7 ?restb) ht1 ht2 (by omega) (by omega) (told_all ht1 ht2 (by omega) (by omega))) ?b1'' ?b2'' ?b3'' ?B'' ?F'' ?X'' N15 ?T'' ?K'' ?d'' ?u'' tb_perm ?_)
      case T'' => k_asm
      case X'' => k_asm
      case B'' => k_asm
      case b1'' => first | k_asm | kn_code
      case b2'' => first | k_asm | kn_code
      case b3'' => first | k_asm | kn_code
      case F'' => k_asm
      case K'' => rfl
      case d'' => first | ktr_room | k_room | decide
      case u'' => first | ktr_units | decide
      case lmb => dsimp only; omega
      case restb =>
        simp only [List.forall_mem_cons]
        exact ⟨by omega, by omega, by decide, hoff47⟩
      rintro r16 n16 h16 tk16 ⟨e16, hR16⟩ F16 N16
      subst e16
      k_with_none
      k_steps
      (rename News _ _ _ _ => nE)
      dsimp only [FPost]
      refine tb_end (fun _ h => nomatch h) hit7 hR16 (by assumption) nE ?_ off7 hI8 hn7 hi7
      ((intro zz zh1 zh2 zh3; (try simp only [List.forall_mem_cons, List.not_mem_nil, false_implies, implies_true, and_true, ne_eq] at zh2); (try simp only [List.contains_cons, List.contains_nil, Bool.or_false, Bool.or_eq_false_iff, beq_eq_false_iff_ne, ne_eq] at zh3); first | rfl | (simp only [kstB, zh1, zh2, zh3, if_false, List.contains_cons, List.contains_nil, Bool.or_false, Bool.or_eq_true, beq_iff_eq, or_false, false_or, or_self, Bool.false_eq_true, ↓reduceIte]; done) | (simp [kstB, zh1, zh2, zh3]; done)))
    case mD =>
      rintro ⟨p7, q7, tl7⟩ u7 h7 tk7 F7 N7
      clear hdr N14 F13 N13 hp10 hpi hp9 hp8 hI12 F11 N11 hsm hR hlen2 hoff47 hA9
      dsimp only at N7
      have G7 : GrownAll [(58, 54), (51, 47), (130, 128)] h7 := ⟨GrownAt.of N7 (.tail _ (.tail _ (.head _))), GrownAt.of N7 (.tail _ (.head _)), GrownAt.of N7 (.tail _ (.tail _ (.tail _ (List.mem_append_right _ (.tail _ (.tail _ (.head _))))))), True.intro⟩
      k_with_none
      refine wpAny_execs_cons ?_
      refine wpAny_Return_some ?_
      walk1
      show GoodW _ _ _ _ _ (.ok (.ret (.bool _))) _ ∧ _
      refine ⟨goodW_bool F7 (by assumption) (raisesW_false ?_) ?_, G7⟩
      · wrow_none_raised
      · wrow_post
  · exact fun p hp => Nat.ne_of_lt (hI12 p hp))
end Mine
end
end
set_option maxRecDepth 100000 in
set_option maxHeartbeats 8000000 in
theorem PySem.Challenge.cw_pe0223_01_holds : PySem.Challenge.rw_pe0223_01.Holds :=
  Mine.law_t
