import PyProof.Rows.All
import Wide.All
import OpenK.AllK
import Wide.FinOn
import PySem.Challenge.RW_un0065_02
open PySem PySem.W PyProof.Rows
set_option Elab.async false
set_option maxRecDepth 100000
set_option maxHeartbeats 0
set_option compiler.extract_closed false
namespace Mine
open_top hd for PySem.Challenge.rw_un0065_02
end Mine
namespace Mine
example : hd.heap_39 = hd.heap_39 ∨ PySem.Challenge.rw_un0065_02.Holds := by
  w_top off
  k_fill
  exact .inl rfl
end Mine
namespace Mine
open PySem PySem.W PyProof.Rows PySem.Builtin PySem.Builtin.Re
theorem slot_search : Slot "re.Pattern" "search" "re.Pattern.search" :=
  .of (owner := "re.Pattern") (n := "search") (by rw [typeLookup_type, builtinLookup_eq_fast]; kernel_rfl) (by decide +kernel) (by decide +kernel) (by decide +kernel)
    (by first | exact .inl (by decide +kernel) | exact .inr (by decide +kernel)) (by rw [isSubtype_type]; kernel_rfl)
theorem entry_search : entryFor table "re.Pattern.search" = some Builtin.«re.Pattern.search» := entryFor_of_tree (by kernel_rfl)
theorem args_search (a b : Value) : argsOk "re.Pattern.search" ⟨[a, b], []⟩ := by unfold argsOk; kernel_rfl
theorem type_search : typeOf (.builtin "re.Pattern.search") = pure (.type "method_descriptor") := by show builtinType _ = _; rw [builtinType_eq_fast]; kernel_rfl
theorem plain_pattern : PlainAttrs "re.Pattern" :=
  ⟨⟨"object.__getattribute__", by rw [typeLookup_type, builtinLookup_eq_fast]; kernel_rfl, by decide +kernel⟩, by rw [typeLookup_type, builtinLookup_eq_fast]; kernel_rfl⟩
#print axioms slot_search
#print axioms plain_pattern
end Mine
namespace Mine
open PySem PySem.W PyProof.Rows PySem.Builtin PySem.Builtin.Re

def isCtlN (c : Nat) : Bool := (decide (0 ≤ c) && decide (c ≤ 31)) || c == 127
def codeN : Array Nat := #[14, 10, 4, 1, 1, 22, 0, 31, 16, 127, 0, 13, 7, 22, 0, 31, 16, 127, 0, 1]
def codeV : Array Nat := #[14, 14, 4, 1, 1, 9, 4294966783, 0, 0, 2147483648, 0, 0, 0, 0, 0, 13, 11, 9, 4294966783, 0, 0, 2147483648, 0, 0, 0, 0, 0, 1]
def isCtlV (c : Nat) : Bool := decide (c < 256) && (codeV.getD (5 + (1 + c / 32)) 0).testBit (c % 32)

theorem inSetN5' (c : Nat) (seen : Sre.Seen) : Sre.inSet codeN c 20 5 true seen = if (decide (0 ≤ c) && decide (c ≤ 31)) = true then .ok (true, seen.add 22) else if (c == 127) = true then .ok (true, (seen.add 22).add 16) else .ok (false, ((seen.add 22).add 16).add 0) := by kernel_rfl
theorem inSetN13' (c : Nat) (seen : Sre.Seen) : Sre.inSet codeN c 20 13 true seen = if (decide (0 ≤ c) && decide (c ≤ 31)) = true then .ok (true, seen.add 22) else if (c == 127) = true then .ok (true, (seen.add 22).add 16) else .ok (false, ((seen.add 22).add 16).add 0) := by kernel_rfl
theorem inSetV5' (c : Nat) (seen : Sre.Seen) : Sre.inSet codeV c 28 5 true seen = if (decide (c < 256) && (codeV.getD (5 + (1 + c / 32)) 0).testBit (c % 32)) = true then .ok (true, seen.add 9) else .ok (false, (seen.add 9).add 0) := by kernel_rfl
theorem inSetV17' (c : Nat) (seen : Sre.Seen) : Sre.inSet codeV c 28 17 true seen = if (decide (c < 256) && (codeV.getD (17 + (1 + c / 32)) 0).testBit (c % 32)) = true then .ok (true, seen.add 9) else .ok (false, (seen.add 9).add 0) := by kernel_rfl
theorem inSetN5 (c : Nat) (seen : Sre.Seen) : ∃ seen', Sre.inSet codeN c codeN.size 5 true seen = .ok (isCtlN c, seen') := by
  have e := inSetN5' c seen
  unfold isCtlN
  cases h1 : (decide (0 ≤ c) && decide (c ≤ 31)) <;> cases h2 : (c == 127) <;> rw [h1, h2] at e <;> exact ⟨_, e⟩
theorem inSetN13 (c : Nat) (seen : Sre.Seen) : ∃ seen', Sre.inSet codeN c codeN.size 13 true seen = .ok (isCtlN c, seen') := by
  have e := inSetN13' c seen
  unfold isCtlN
  cases h1 : (decide (0 ≤ c) && decide (c ≤ 31)) <;> cases h2 : (c == 127) <;> rw [h1, h2] at e <;> exact ⟨_, e⟩
theorem inSetV5 (c : Nat) (seen : Sre.Seen) : ∃ seen', Sre.inSet codeV c codeV.size 5 true seen = .ok (isCtlV c, seen') := by
  have e := inSetV5' c seen
  unfold isCtlV
  cases h1 : (decide (c < 256) && (codeV.getD (5 + (1 + c / 32)) 0).testBit (c % 32)) <;> rw [h1] at e <;> exact ⟨_, e⟩
theorem v17 (c : Nat) (h : c < 256) : codeV.getD (17 + (1 + c / 32)) 0 = codeV.getD (5 + (1 + c / 32)) 0 := by
  have h2 : c / 32 < 8 := by omega
  generalize c / 32 = k at h2
  revert k
  decide
theorem inSetV17 (c : Nat) (seen : Sre.Seen) : ∃ seen', Sre.inSet codeV c codeV.size 17 true seen = .ok (isCtlV c, seen') := by
  have e := inSetV17' c seen
  unfold isCtlV
  by_cases hc : c < 256
  · rw [v17 c hc] at e
    cases h1 : (decide (c < 256) && (codeV.getD (5 + (1 + c / 32)) 0).testBit (c % 32)) <;> rw [h1] at e <;> exact ⟨_, e⟩
  · have : decide (c < 256) = false := decide_eq_false hc
    rw [this, Bool.false_and] at e ⊢
    exact ⟨_, e⟩

/-- a code: its first set at 5, its one set at q, success behind -/
structure OneSet (code : Array Nat) (q : Nat) (ctl : Nat → Bool) : Prop where
  first : ∀ c seen, ∃ seen', Sre.inSet code c code.size 5 true seen = .ok (ctl c, seen')
  body : ∀ c seen, ∃ seen', Sre.inSet code c code.size (q + 2) true seen = .ok (ctl c, seen')
theorem oneN : OneSet codeN 11 isCtlN := ⟨inSetN5, inSetN13⟩
theorem oneV : OneSet codeV 15 isCtlV := ⟨inSetV5, inSetV17⟩

theorem admitted_none {code : Array Nat} {q : Nat} {ctl : Nat → Bool} (O : OneSet code q ctl) (m : Sre.M) (hm : m.code = code) : ∀ fuel s seen, (∀ i, s ≤ i → i < m.lim → ctl (m.text.getD i 0) = false) → ∃ seen', Sre.M.admitted m fuel s seen = .ok (none, seen')
  | 0, s, seen, _ => ⟨seen, rfl⟩
  | fuel + 1, s, seen, h => by
    unfold Sre.M.admitted
    by_cases hs : s ≥ m.lim
    · rw [if_pos hs]; exact ⟨_, rfl⟩
    · rw [if_neg hs, hm]
      obtain ⟨seen', e⟩ := O.first (m.text.getD s 0) seen
      rw [e, h s (Nat.le_refl _) (by omega)]
      exact admitted_none O m hm fuel (s + 1) seen' fun i hi => h i (by omega)
theorem admitted_some {code : Array Nat} {q : Nat} {ctl : Nat → Bool} (O : OneSet code q ctl) (m : Sre.M) (hm : m.code = code) : ∀ fuel s seen, m.lim - s < fuel → (∃ i, s ≤ i ∧ i < m.lim ∧ ctl (m.text.getD i 0) = true) → ∃ k seen', Sre.M.admitted m fuel s seen = .ok (some k, seen') ∧ k < m.lim ∧ ctl (m.text.getD k 0) = true
  | 0, s, seen, hf, _ => by omega
  | fuel + 1, s, seen, hf, ⟨i, h1, h2, h3⟩ => by
    unfold Sre.M.admitted
    rw [if_neg (by omega), hm]
    obtain ⟨seen', e⟩ := O.first (m.text.getD s 0) seen
    rw [e]
    cases hc : ctl (m.text.getD s 0) with
    | true => exact ⟨s, seen', rfl, by omega, hc⟩
    | false =>
      refine admitted_some O m hm fuel (s + 1) seen' (by omega) ⟨i, ?_, h2, h3⟩
      rcases Nat.eq_or_lt_of_le h1 with rfl | h1
      · rw [hc] at h3; cases h3
      · exact h1
end Mine
namespace Mine
open PySem PySem.W PyProof.Rows PySem.Builtin PySem.Builtin.Re

theorem run_failed (m : Sre.M) (ha : m.answer = some false) (hf : m.frames = []) (ho : m.outcome = none) : (m.runFor 4).outcome = some .failed := by
  have e : m.step = { m with outcome := some .failed } := by
    unfold Sre.M.step
    rw [ho, ha, hf]; rfl
  unfold Sre.M.runFor
  rw [ho, e]
  rfl

/-- what the machine does with a code of one set -/
structure OneCode (code : Array Nat) (q : Nat) (ctl : Nat → Bool) : Prop extends OneSet code q ctl where
  sz : q + 8 ≤ code.size ∨ q + 8 ≤ code.size
  start : ∀ t lim, ∃ m : Sre.M, m.code = code ∧ m.text = t ∧ m.lim = lim ∧ m.answer = none ∧ m.frames = [] ∧ m.outcome = none ∧ m.pc = q ∧ m.wholeText = false ∧ m.weight = 0 ∧ m.mustAdvance = false ∧
    Sre.forSearch code t 0 0 lim false = if (decide (0 > lim) || decide (lim - 0 < 1)) = true then m.say false else (match Sre.M.admitted m (m.lim + 1 - 0) 0 m.seen with
      | .ok (some s, seen) => { m with mustAdvance := false, seen := seen }.attemptAt s true
      | .ok (none, seen) => { m with seen := seen }.say false
      | .error why => m.stick why)

theorem startN (t : Array Nat) (lim : Nat) : ∃ m : Sre.M, m.code = codeN ∧ m.text = t ∧ m.lim = lim ∧ m.answer = none ∧ m.frames = [] ∧ m.outcome = none ∧ m.pc = 11 ∧ m.wholeText = false ∧ m.weight = 0 ∧ m.mustAdvance = false ∧
    Sre.forSearch codeN t 0 0 lim false = if (decide (0 > lim) || decide (lim - 0 < 1)) = true then m.say false else (match Sre.M.admitted m (m.lim + 1 - 0) 0 m.seen with
      | .ok (some s, seen) => { m with mustAdvance := false, seen := seen }.attemptAt s true
      | .ok (none, seen) => { m with seen := seen }.say false
      | .error why => m.stick why) := by
  by_cases h : lim < 1
  · have : lim = 0 := by omega
    subst this
    exact ⟨{ code := codeN, text := t, lim := 0, start := 0, pc := 11, pos := 0, handed := 0, marks := #[], seen := ({} : Sre.Seen).add 14 }, rfl, rfl, rfl, rfl, rfl, rfl, rfl, rfl, rfl, rfl, rfl⟩
  · refine ⟨{ code := codeN, text := t, lim := lim, start := 0, pc := 11, pos := 0, handed := 0, marks := #[], lastStart := lim, seen := ({} : Sre.Seen).add 14 }, rfl, rfl, rfl, rfl, rfl, rfl, rfl, rfl, rfl, rfl, ?_⟩
    have e : (decide (0 > lim) || decide (lim - 0 < 1)) = false := by simp; omega
    unfold Sre.forSearch
    rw [e]
    exact (if_neg (by show ¬ (decide (0 > lim) || decide (lim - 0 < 1)) = true; rw [e]; decide)).trans rfl
theorem startV (t : Array Nat) (lim : Nat) : ∃ m : Sre.M, m.code = codeV ∧ m.text = t ∧ m.lim = lim ∧ m.answer = none ∧ m.frames = [] ∧ m.outcome = none ∧ m.pc = 15 ∧ m.wholeText = false ∧ m.weight = 0 ∧ m.mustAdvance = false ∧
    Sre.forSearch codeV t 0 0 lim false = if (decide (0 > lim) || decide (lim - 0 < 1)) = true then m.say false else (match Sre.M.admitted m (m.lim + 1 - 0) 0 m.seen with
      | .ok (some s, seen) => { m with mustAdvance := false, seen := seen }.attemptAt s true
      | .ok (none, seen) => { m with seen := seen }.say false
      | .error why => m.stick why) := by
  by_cases h : lim < 1
  · have : lim = 0 := by omega
    subst this
    exact ⟨{ code := codeV, text := t, lim := 0, start := 0, pc := 15, pos := 0, handed := 0, marks := #[], seen := ({} : Sre.Seen).add 14 }, rfl, rfl, rfl, rfl, rfl, rfl, rfl, rfl, rfl, rfl, rfl⟩
  · refine ⟨{ code := codeV, text := t, lim := lim, start := 0, pc := 15, pos := 0, handed := 0, marks := #[], lastStart := lim, seen := ({} : Sre.Seen).add 14 }, rfl, rfl, rfl, rfl, rfl, rfl, rfl, rfl, rfl, rfl, ?_⟩
    have e : (decide (0 > lim) || decide (lim - 0 < 1)) = false := by simp; omega
    unfold Sre.forSearch
    rw [e]
    exact (if_neg (by show ¬ (decide (0 > lim) || decide (lim - 0 < 1)) = true; rw [e]; decide)).trans rfl
end Mine
namespace Mine
open PySem PySem.W PyProof.Rows PySem.Builtin PySem.Builtin.Re

theorem stepsN (t : Array Nat) (lim s : Nat) (hs : s < lim) (hc : isCtlN (t.getD s 0) = true) (m : Sre.M) (h1 : m.code = codeN) (h2 : m.text = t) (h3 : m.lim = lim) (h4 : m.answer = none) (h5 : m.outcome = none) (h6 : m.pc = 11) (h7 : m.pos = s)
    (h8 : m.wholeText = false) (h9 : m.mustAdvance = false) (f : Sre.Frame) (h10 : m.frames = [f]) (h11 : f.wait = .nextStart) : (m.runFor 4).outcome = some .matched := by
  obtain ⟨code, text, li, start, ls, wt, ma, pc, pos, hd, om, mk, lm, lx, lo, inn, fr, we, an, sn, oc⟩ := m
  dsimp only at *
  subst h1 h2 h3 h4 h5 h6 h7 h8 h9 h10
  obtain ⟨seen', e⟩ := inSetN13 (text.getD pos 0) (sn.add 13)
  rw [hc] at e
  have s1 : Sre.M.step ⟨codeN, text, li, start, ls, false, false, 11, pos, hd, om, mk, lm, lx, lo, inn, [f], we, none, sn, none⟩ = ⟨codeN, text, li, start, ls, false, false, 19, pos + 1, hd, om, mk, lm, lx, lo, inn, [f], we, none, seen', none⟩ := by
    show (if pos ≥ li then _ else match Sre.inSet codeN (text.getD pos 0) codeN.size 13 true (sn.add 13) with | .error why => _ | .ok (false, seen) => _ | .ok (true, seen) => _) = _
    rw [if_neg (by omega), e]
    rfl
  have s2 : Sre.M.step ⟨codeN, text, li, start, ls, false, false, 19, pos + 1, hd, om, mk, lm, lx, lo, inn, [f], we, none, seen', none⟩ = ⟨codeN, text, li, start, ls, false, false, 19, pos + 1, pos + 1, om, mk, lm, lx, lo, inn, [f], we, some true, seen'.add 1, none⟩ := by
    show (if (om && ((false && _) || (false && _))) = true then _ else _) = _
    rw [if_neg (by simp)]
    rfl
  obtain ⟨fw, fpc, fpos, fo, fc, fk, fl, fb⟩ := f
  dsimp only at h11
  subst h11
  unfold Sre.M.runFor
  rw [if_neg (by exact Bool.false_ne_true), s1]
  unfold Sre.M.runFor
  rw [if_neg (by exact Bool.false_ne_true), s2]
  rfl
theorem stepsV (t : Array Nat) (lim s : Nat) (hs : s < lim) (hc : isCtlV (t.getD s 0) = true) (m : Sre.M) (h1 : m.code = codeV) (h2 : m.text = t) (h3 : m.lim = lim) (h4 : m.answer = none) (h5 : m.outcome = none) (h6 : m.pc = 15) (h7 : m.pos = s)
    (h8 : m.wholeText = false) (h9 : m.mustAdvance = false) (f : Sre.Frame) (h10 : m.frames = [f]) (h11 : f.wait = .nextStart) : (m.runFor 4).outcome = some .matched := by
  obtain ⟨code, text, li, start, ls, wt, ma, pc, pos, hd, om, mk, lm, lx, lo, inn, fr, we, an, sn, oc⟩ := m
  dsimp only at *
  subst h1 h2 h3 h4 h5 h6 h7 h8 h9 h10
  obtain ⟨seen', e⟩ := inSetV17 (text.getD pos 0) (sn.add 13)
  rw [hc] at e
  have s1 : Sre.M.step ⟨codeV, text, li, start, ls, false, false, 15, pos, hd, om, mk, lm, lx, lo, inn, [f], we, none, sn, none⟩ = ⟨codeV, text, li, start, ls, false, false, 27, pos + 1, hd, om, mk, lm, lx, lo, inn, [f], we, none, seen', none⟩ := by
    show (if pos ≥ li then _ else match Sre.inSet codeV (text.getD pos 0) codeV.size 17 true (sn.add 13) with | .error why => _ | .ok (false, seen) => _ | .ok (true, seen) => _) = _
    rw [if_neg (by omega), e]
    rfl
  have s2 : Sre.M.step ⟨codeV, text, li, start, ls, false, false, 27, pos + 1, hd, om, mk, lm, lx, lo, inn, [f], we, none, seen', none⟩ = ⟨codeV, text, li, start, ls, false, false, 27, pos + 1, pos + 1, om, mk, lm, lx, lo, inn, [f], we, some true, seen'.add 1, none⟩ := by
    show (if (om && ((false && _) || (false && _))) = true then _ else _) = _
    rw [if_neg (by simp)]
    rfl
  obtain ⟨fw, fpc, fpos, fo, fc, fk, fl, fb⟩ := f
  dsimp only at h11
  subst h11
  unfold Sre.M.runFor
  rw [if_neg (by exact Bool.false_ne_true), s1]
  unfold Sre.M.runFor
  rw [if_neg (by exact Bool.false_ne_true), s2]
  rfl
def ctlIn (ctl : Nat → Bool) (t : Array Nat) : Bool := t.any ctl
theorem ctlIn_false {ctl : Nat → Bool} {t : Array Nat} (h : ctlIn ctl t = false) (i : Nat) (hi : i < t.size) : ctl (t.getD i 0) = false := by
  unfold ctlIn at h
  rw [Array.any_eq_false] at h
  have := h i hi
  rw [Array.getD_eq_getD_getElem?, Array.getElem?_eq_getElem hi]
  simpa using this
theorem ctlIn_true {ctl : Nat → Bool} {t : Array Nat} (h : ctlIn ctl t = true) : ∃ i, i < t.size ∧ ctl (t.getD i 0) = true := by
  unfold ctlIn at h
  rw [Array.any_eq_true] at h
  obtain ⟨i, hi, e⟩ := h
  exact ⟨i, hi, by rw [Array.getD_eq_getD_getElem?, Array.getElem?_eq_getElem hi]; simpa using e⟩
theorem outN (t : Array Nat) : ((Sre.forSearch codeN t 0 0 t.size false).runFor 4).outcome = some (if ctlIn isCtlN t then .matched else .failed) := by
  obtain ⟨m, h1, h2, h3, h4, h5, h6, h7, h8, h9, h10, e⟩ := startN t t.size
  rw [e]
  cases hc : ctlIn isCtlN t with
  | false =>
    rw [if_neg Bool.false_ne_true]
    split
    · exact run_failed _ rfl h5 h6
    · obtain ⟨sn, q⟩ := admitted_none oneN m h1 (m.lim + 1 - 0) 0 m.seen (fun i _ hi => by rw [h2]; exact ctlIn_false hc i (by rw [h3] at hi; exact hi))
      rw [q]
      exact run_failed _ rfl h5 h6
  | true =>
    obtain ⟨i, hi, hci⟩ := ctlIn_true hc
    rw [if_pos rfl, if_neg (by rw [Bool.or_eq_true, decide_eq_true_eq, decide_eq_true_eq]; omega)]
    obtain ⟨k, sn, q, hk, hck⟩ := admitted_some oneN m h1 (m.lim + 1 - 0) 0 m.seen (by omega) ⟨i, Nat.zero_le _, by rw [h3]; exact hi, by rw [h2]; exact hci⟩
    rw [q]
    dsimp only
    unfold Sre.M.attemptAt Sre.M.attempt
    rw [if_neg (by show ¬ (m.weight + 1 + 0 > 16777216); rw [h9]; decide)]
    exact stepsN t t.size k (h3 ▸ hk) (h2 ▸ hck) _ h1 h2 h3 h4 h6 h7 rfl h8 rfl _ (by show _ :: m.frames = _; rw [h5]) rfl
theorem outV (t : Array Nat) : ((Sre.forSearch codeV t 0 0 t.size false).runFor 4).outcome = some (if ctlIn isCtlV t then .matched else .failed) := by
  obtain ⟨m, h1, h2, h3, h4, h5, h6, h7, h8, h9, h10, e⟩ := startV t t.size
  rw [e]
  cases hc : ctlIn isCtlV t with
  | false =>
    rw [if_neg Bool.false_ne_true]
    split
    · exact run_failed _ rfl h5 h6
    · obtain ⟨sn, q⟩ := admitted_none oneV m h1 (m.lim + 1 - 0) 0 m.seen (fun i _ hi => by rw [h2]; exact ctlIn_false hc i (by rw [h3] at hi; exact hi))
      rw [q]
      exact run_failed _ rfl h5 h6
  | true =>
    obtain ⟨i, hi, hci⟩ := ctlIn_true hc
    rw [if_pos rfl, if_neg (by rw [Bool.or_eq_true, decide_eq_true_eq, decide_eq_true_eq]; omega)]
    obtain ⟨k, sn, q, hk, hck⟩ := admitted_some oneV m h1 (m.lim + 1 - 0) 0 m.seen (by omega) ⟨i, Nat.zero_le _, by rw [h3]; exact hi, by rw [h2]; exact hci⟩
    rw [q]
    dsimp only
    unfold Sre.M.attemptAt Sre.M.attempt
    rw [if_neg (by show ¬ (m.weight + 1 + 0 > 16777216); rw [h9]; decide)]
    exact stepsV t t.size k (h3 ▸ hk) (h2 ▸ hck) _ h1 h2 h3 h4 h6 h7 rfl h8 rfl _ (by show _ :: m.frames = _; rw [h5]) rfl
end Mine
namespace Mine
open PySem PySem.W PyProof.Rows PySem.Builtin PySem.Builtin.Re

structure PatAt (h : Heap) (P : Addr) (code : Array Nat) : Prop where
  at_ : ∃ a b T its n, h.get? P = some { cls := .type "re.Pattern", data := .fields #[a, b, .int 0 0, .none, .none, .ref T, .int 0 0] } ∧ h.get? T = some { cls := .type "tuple", data := .seq its n } ∧ (its.map reRawOf).map (·.toNat) = code
theorem PatAt.keeps {h h' : Heap} {P : Addr} {code : Array Nat} (x : PatAt h P code) (k : ∀ b o, h.get? b = some o → h'.get? b = some o) : PatAt h' P code := by
  obtain ⟨a, b, T, its, n, h1, h2, h3⟩ := x.at_
  exact ⟨a, b, T, its, n, k _ _ h1, k _ _ h2, h3⟩

section
variable {prog : Program} {w : World} {A : Around} {E : Value → Shared → Prop} {s : Shared}
theorem seen_wp (m : Sre.M) {Q : PUnit → Shared → Prop} (h : Q ⟨⟩ s) : wpAny (model prog w) A (forIn (List.range Sre.names.size) PUnit.unit fun i _ =>
    if m.seen.has i = true then do rule (Sre.names.getD i ""); pure (ForInStep.yield PUnit.unit) else pure (ForInStep.yield PUnit.unit)) Q E s := by
  refine wpAny_forIn_list _ (fun _ _ s' => s' = s) Q (fun x rest b s' e => ?_) (fun b s' e => by rw [e]; exact h) _ _ rfl
  subst e
  split
  · exact wpAny_bind (wpAny_rule (wpAny_pure rfl))
  · exact wpAny_pure rfl
theorem drive_wp {m : Sre.M} {o : Sre.Outcome} {Q : Sre.M → Shared → Prop} (e : (m.runFor 4).outcome = some o) (h : Q (m.runFor 4) s) : wpAny (model prog w) A (reDrive (2 ^ 64) m) Q E s := by
  rw [show (2 ^ 64 : Nat) = (2 ^ 64 - 1) + 1 from by decide]
  unfold reDrive
  show wpAny _ _ (if (m.runFor 4).outcome.isSome = true then pure (m.runFor 4) else _) _ _ _
  rw [e, if_pos (by rfl)]
  exact wpAny_pure h
theorem runToEnd_failed {m : Sre.M} {Q : Option Sre.M → Shared → Prop} (e : (m.runFor 4).outcome = some .failed) (h : Q none s) : wpAny (model prog w) A (reRunToEnd m) Q E s := by
  unfold reRunToEnd
  refine wpAny_bind (drive_wp e ?_)
  refine wpAny_bind (seen_wp _ ?_)
  rw [e]
  exact wpAny_pure h
theorem runToEnd_matched {m : Sre.M} {Q : Option Sre.M → Shared → Prop} (e : (m.runFor 4).outcome = some .matched) (h : Q (some (m.runFor 4)) s) : wpAny (model prog w) A (reRunToEnd m) Q E s := by
  unfold reRunToEnd
  refine wpAny_bind (drive_wp e ?_)
  refine wpAny_bind (seen_wp _ ?_)
  rw [e]
  exact wpAny_pure h
theorem named_search (text : Value) : reNamed "re.Pattern.search" "search" ["string", "pos", "endpos"] 1 [text] [] = pure [some text, none, none] := by rfl

theorem target_wp {P : Addr} {x : Str} {t : Tok} {code : Array Nat} {Q : ReTarget → Shared → Prop} (hP : PatAt s.heap P code) (hx : x.length ≤ 2 ^ 24)
    (h : Q { pattern := .ref P, string := .str x t, code := code, text := x.cps, kind := 0, groups := 0, pos := 0, lim := x.cps.size } s) :
    wpAny (model prog w) A (reTarget "re.Pattern.search" "search" ⟨[.ref P, .str x t], []⟩) Q E s := by
  obtain ⟨a, b, T, its, n, h1, h2, h3⟩ := hP.at_
  unfold reTarget
  show wpAny _ _ (reNamed "re.Pattern.search" "search" ["string", "pos", "endpos"] 1 [.str x t] [] >>= _) _ _ _
  rw [named_search]
  refine wpAny_bind (wpAny_pure ?_)
  refine wpAny_bind (wpAny_pure ?_)
  refine wpAny_bind (wpAny_pure ?_)
  refine wpAny_bind ?_
  unfold fieldsOf
  refine wpAny_bind (wpAny_load h1 (wpAny_pure ?_))
  refine wpAny_bind (wpAny_bind (wpAny_pure (wpAny_pure ?_)))
  dsimp only
  refine wpAny_bind (wpAny_pure ?_)
  refine wpAny_bind ?_
  show wpAny _ _ (do return ((← seqItems? (.ref T)).getD #[]).map reRawOf) _ _ _
  unfold seqItems?
  refine wpAny_bind (wpAny_bind (wpAny_load h2 (wpAny_pure (wpAny_pure (wpAny_pure ?_)))))
  have e0 : min (0 : Int).toNat x.cps.size = 0 := by simp
  have e1 : min ((2 ^ 63 - 1 : Int)).toNat x.cps.size = x.cps.size := by
    have : x.cps.size ≤ 2 ^ 24 := hx
    have e : ((2 ^ 63 - 1 : Int)).toNat = 2 ^ 63 - 1 := by decide
    omega
  show Q { pattern := .ref P, string := .str x t, code := (its.map reRawOf).map (·.toNat), text := x.cps, kind := 0, groups := 0, pos := min (0 : Int).toNat x.cps.size, lim := min ((2 ^ 63 - 1 : Int)).toNat x.cps.size } s
  rw [e0, e1, h3]
  exact h

def matchObj (fs : Array Value) : Obj := { cls := .type "re.Match", data := .fields fs }
def tupObj (vs : Array Value) : Obj := { cls := .type "tuple", data := .seq vs }
theorem search_body {P : Addr} {x : Str} {t : Tok} {code : Array Nat} {ctl : Nat → Bool} {Q : Value → Shared → Prop} (hP : PatAt s.heap P code) (hx : x.length ≤ 2 ^ 24)
    (hout : ((Sre.forSearch code x.cps 0 0 x.cps.size false).runFor 4).outcome = some (if ctlIn ctl x.cps then .matched else .failed))
    (h0 : ctlIn ctl x.cps = false → Q .none s)
    (h1 : ctlIn ctl x.cps = true → ∀ vs fs, Q (.ref (s.heap.objs.size + 1)) { s with heap := (s.heap.push (tupObj vs)).push (matchObj fs) }) :
    wpAny (model prog w) A (Builtin.«re.Pattern.search» ⟨[.ref P, .str x t], []⟩) (fun fin s' => ∃ v, fin = .done (.ret v) ∧ Q v s') E s := by
  unfold Builtin.«re.Pattern.search»
  refine wpAny_bind (target_wp hP hx ?_)
  unfold reAnswer
  dsimp only
  cases hc : ctlIn ctl x.cps with
  | false =>
    rw [hc, if_neg Bool.false_ne_true] at hout
    exact wpAny_bind (runToEnd_failed hout (wpAny_pure ⟨_, rfl, h0 hc⟩))
  | true =>
    rw [hc, if_pos rfl] at hout
    refine wpAny_bind (runToEnd_matched hout ?_)
    dsimp only
    refine wpAny_bind ?_
    unfold reNewMatch
    dsimp only
    refine wpAny_bind ?_
    unfold newTuple
    refine wpAny_newObj_type ?_ (by show List.length _ ≤ sizeLine; simp [List.range_zero]; decide)
    unfold newFields
    refine wpAny_newObj_type ?_ (by show 6 ≤ sizeLine + 2; decide)
    refine wpAny_pure ⟨_, rfl, ?_⟩
    have := h1 hc
    dsimp only
    rw [Heap.size_push]
    exact this _ _

/-- the search of a control sign in a text, as a call -/
theorem search_call {P : Addr} {x : Str} {t : Tok} {code : Array Nat} {ctl : Nat → Bool} {Q : Value → Shared → Prop} (hP : PatAt s.heap P code) (hx : x.length ≤ 2 ^ 24)
    (hout : ((Sre.forSearch code x.cps 0 0 x.cps.size false).runFor 4).outcome = some (if ctlIn ctl x.cps then .matched else .failed))
    (h0 : ctlIn ctl x.cps = false → Q .none s)
    (h1 : ctlIn ctl x.cps = true → ∀ vs fs, Q (.ref (s.heap.objs.size + 1)) { s with heap := (s.heap.push (tupObj vs)).push (matchObj fs) }) :
    wpAny (model prog w) A (call (.builtin "re.Pattern.search") [.ref P, .str x t]) Q E s := by
  have hT : s.TypeIs (.ref P) "re.Pattern" := by
    obtain ⟨a, b, T, its, n, e, _⟩ := hP.at_
    exact ⟨_, e, rfl⟩
  exact wpAny_call_entry slot_search hT entry_search (search_body hP hx hout h0 h1) (args_search _ _)
theorem getMethod_search {P : Addr} {code : Array Nat} {pl : Sem Bool} {Q : Value × List Value → Shared → Prop} (hP : PatAt s.heap P code) (h : Q (.builtin "re.Pattern.search", [.ref P]) s) :
    wpAny (model prog w) A (getMethod (.ref P) "search" pl) Q E s := by
  obtain ⟨a, b, T, its, n, e, _⟩ := hP.at_
  exact getMethod_builtin (T := "re.Pattern") ⟨_, e, rfl⟩ plain_pattern slot_search type_search (fun a' e' => by cases e'; exact ⟨_, e, rfl⟩) h
theorem nobool_match : typeLookup (.type "re.Match") "__bool__" = pure none := by rw [typeLookup_type, builtinLookup_eq_fast]; kernel_rfl
theorem nolen_match : typeLookup (.type "re.Match") "__len__" = pure none := by rw [typeLookup_type, builtinLookup_eq_fast]; kernel_rfl
theorem truthy_match {a : Addr} {fs : Array Value} {Q : Bool → Shared → Prop} (ha : s.heap.get? a = some (matchObj fs)) (h : Q true s) : wpAny (model prog w) A (truthy (.ref a)) Q E s := by
  have hT : s.TypeIs (.ref a) "re.Match" := ⟨_, ha, rfl⟩
  unfold truthy
  dsimp only
  refine wpAny_bind (wpAny_callSpecial?_none hT nobool_match ?_)
  dsimp only
  refine wpAny_bind (wpAny_specialOf hT nolen_match ?_)
  exact wpAny_pure h
end
end Mine
namespace Mine
def upd (l : Addr) (o : Obj) (news : List (Addr × Obj)) : List (Addr × Obj) := news.map fun p => if p.1 = l then (l, o) else p
theorem mem_upd_self {l : Addr} {o o' : Obj} {news : List (Addr × Obj)} (h : (l, o) ∈ news) : (l, o') ∈ upd l o' news := by
  unfold upd
  rw [List.mem_map]
  exact ⟨_, h, by simp⟩
theorem mem_upd {l a : Addr} {o o' : Obj} {news : List (Addr × Obj)} (h : (a, o) ∈ news) (hne : a ≠ l) : (a, o) ∈ upd l o' news := by
  unfold upd
  rw [List.mem_map]
  exact ⟨_, h, by simp [hne]⟩
theorem news_upd {h₀ h h' : Heap} {L l : Addr} {o o' : Obj} {news : List (Addr × Obj)} (N : News h₀ L h news) (hl : (l, o) ∈ news) (hs : Heap.SameBut l h h') (ho : h'.get? l = some o') : News h₀ L h' (upd l o' news) := by
  intro p hp
  unfold upd at hp
  rw [List.mem_map] at hp
  obtain ⟨q, hq, rfl⟩ := hp
  by_cases e : q.1 = l
  · rw [if_pos e]
    exact ⟨ho, (N _ hl).2⟩
  · rw [if_neg e]
    exact ⟨(hs.2 _ e).trans (N _ hq).1, (N _ hq).2⟩
theorem news_ne {h₀ h : Heap} {L a b : Addr} {o₁ o₂ : Obj} {news : List (Addr × Obj)} (N : News h₀ L h news) (h1 : (a, o₁) ∈ news) (h2 : (b, o₂) ∈ news) (hne : o₁.cls ≠ o₂.cls) : a ≠ b := by
  rintro rfl
  have e1 := (N _ h1).1
  rw [(N _ h2).1] at e1
  exact hne (congrArg Obj.cls (Option.some.inj e1).symm)
theorem news_mono {h₀ h : Heap} {L : Addr} {news news' : List (Addr × Obj)} (N : News h₀ L h news) (hs : ∀ p ∈ news', p ∈ news) : News h₀ L h news' := fun p hp => N p (hs p hp)

theorem cons_sub {p : Addr × Obj} {a b : List (Addr × Obj)} (h : p ∈ b) (hs : ∀ q ∈ a, q ∈ b) : ∀ q ∈ p :: a, q ∈ b := fun q hq => (List.mem_cons.mp hq).elim (fun e => e ▸ h) (hs q)
section
variable {prog : Program} {w : World} {A : Around} {E : Value → Shared → Prop} {s : Shared} {h₀ : Heap} {L l : Addr} {m : Str → Option Value} {news : List (Addr × Obj)}
theorem append_L {its : Array Value} {n : Nat} {x : Value} {Q : Value → Shared → Prop} (F : Fr h₀ L s.heap m) (N : News h₀ L s.heap news) (hl : (l, listOf its n) ∈ news)
    (h : ∀ h', Fr h₀ L h' m → News h₀ L h' (upd l (listOf (its.push x) (n + 1)) news) → Q .none { s with heap := h' }) (hsz : its.size ≤ sizeLine) : wpAny (model prog w) A (call (.builtin "list.append") [.ref l, x]) Q E s := by
  have z := N _ hl
  exact append_at (hsz := hsz) z.1 fun h' hs ho' => h h' (F.change hs z.2.1 z.2.2) (news_upd N hl hs ho')
end
end Mine
namespace Mine
def Hold (P : Prop) : Prop := P
theorem hold_intro {P : Prop} (h : Hold P) : P := h
theorem hold_elim {P : Prop} (h : P) : Hold P := h
theorem all_ne_of_lt {news : List (Addr × Obj)} {L d : Addr} (h : ∀ p ∈ news, p.1 < L) (hd : L ≤ d) : ∀ p ∈ news, p.1 ≠ d := fun p hp e => by have := h p hp; rw [e] at this; exact absurd (Nat.lt_of_lt_of_le this hd) (Nat.lt_irrefl _)
end Mine
namespace Mine
section
variable {prog : Program} {w : World} {A : Around} {E : Value → Shared → Prop} {s : Shared} {h₀ : Heap} {L l : Addr} {m : Str → Option Value} {news : List (Addr × Obj)} {env : Env}

theorem news_keep {h h' : Heap} (N : News h₀ L h news) (k : ∀ b o, h.get? b = some o → h'.get? b = some o) : News h₀ L h' news := fun p hp => ⟨k _ _ (N p hp).1, (N p hp).2⟩
theorem listAll_of {vs : List Value} {its : Array Value} (hlen : vs.length = its.size) (hP : ∀ (j : Nat) v, vs[j]? = some v → its[j]? = some v) : vs = its.toList := by
  apply List.ext_getElem?
  intro j
  cases e : vs[j]? with
  | some v => rw [Array.getElem?_toList, hP j v e]
  | none =>
    have : vs.length ≤ j := List.getElem?_eq_none_iff.mp e
    rw [Array.getElem?_toList]
    symm
    rw [Array.getElem?_eq_none_iff]
    omega

/-- a comprehension over a list of the ledger, its test and its element quiet -/
theorem comp_tail {its : Array Value} {n : Nat} {scope : Scope} {cl : List (Str × Addr)} {x : Str} {ifs : List Expr} {elt : Expr} {p : Value → Bool} {Fm : Value → Value → Prop} {Q : Value → Shared → Prop}
    (hh : A.handled = none) (F : Fr h₀ L s.heap m) (N : News h₀ L s.heap news) (hl : (l, listOf its n) ∈ news) (hsz : its.size ≤ sizeLine)
    (hq : ∀ s₂ : Shared, (∃ o, s₂ = { s with heap := s.heap.push o }) → Fr h₀ L s₂.heap m → News h₀ L s₂.heap news → QuietOnC prog w A env scope cl x ifs elt [s.heap.objs.size] (fun i v => its[i]? = some v) p Fm s₂)
    (hQ : ∀ D h' tk ys k, Fr h₀ L h' m → News h₀ L h' ((D, listOf ys k) :: news) → Paired Fm (its.toList.filter p) ys.toList → (∀ q ∈ news, q.1 ≠ D) → (∀ b o, s.heap.get? b = some o → h'.get? b = some o) → Q (.ref D) { s with heap := h', toks := tk }) :
    wpAny (model prog w) A (pyIter (.ref l)) (fun it s₂ => ∃ I fp wr n P St, it = .ref I ∧ Walks prog w A I fp wr n P St ∧ n ≤ sizeLine ∧ St 0 s₂.heap ∧ (∀ b ∈ fp, b < s₂.heap.objs.size) ∧
      QuietOnC prog w A env scope cl x ifs elt wr P p Fm s₂ ∧
      (∀ D h' tk ys (vs : List Value), s₂.heap.get? D = none → h'.IsList D ys → h'.PlainList D ys → vs.length = n → (∀ j v, vs[j]? = some v → P j v) → Paired Fm (vs.filter p) ys.toList →
        (∀ b o, b ∉ wr → s₂.heap.get? b = some o → h'.get? b = some o) → Q (.ref D) { s₂ with heap := h', toks := tk })) E s := by
  have z := N _ hl
  have hL : s.heap.IsList l its := ⟨_, z.1, rfl, n, rfl⟩
  have hlt := Heap.lt_size z.1
  refine wpAny_pyIter_list hL ?_
  have up : ∀ b o, s.heap.get? b = some o → (s.heap.push { cls := .type "list_iterator", data := .fields #[.ref l, .int 0 0] }).get? b = some o := fun b o e => Heap.get?_push_of_some _ e
  refine ⟨_, _, _, _, _, _, rfl, Walks.list hh s.heap.objs.size l (Nat.ne_of_lt hlt) its, hsz, ⟨⟨_, Heap.get?_push_size _ rfl, rfl, rfl⟩, hL.push _⟩, ?_, hq _ ⟨_, rfl⟩ (F.push _) (news_keep N up), ?_⟩
  · intro b hb
    show b < (s.heap.push _).objs.size
    rw [Heap.size_push]
    rcases List.mem_cons.mp hb with rfl | hb
    · exact Nat.lt_succ_self _
    · rw [List.mem_singleton.mp hb]; exact Nat.lt_succ_of_lt hlt
  · intro D h' tk ys vs hD hlD hpl hlen hP hF hk
    have ev := listAll_of hlen hP
    subst ev
    have keep : ∀ b o, s.heap.get? b = some o → h'.get? b = some o := fun b o e => hk b o (fun hm => by
      rw [List.mem_singleton.mp hm] at e
      exact absurd (Heap.lt_size e) (Nat.lt_irrefl _)) (up b o e)
    have hD' : s.heap.get? D = none := by
      cases e : s.heap.get? D with
      | none => rfl
      | some o => rw [up D o e] at hD; cases hD
    obtain ⟨k, hpl⟩ := hpl
    refine hQ D h' tk ys k (F.keeps keep) (fun q hq => ?_) hF (fun q hq e => ?_) keep
    · rcases List.mem_cons.mp hq with rfl | hq
      · refine ⟨hpl, ?_, ?_⟩
        · rintro rfl
          obtain ⟨oL, _, _, e, _⟩ := F.ns
          rw [hD'] at e; cases e
        · cases e : h₀.get? D with
          | none => rfl
          | some o => rw [F.keep _ _ e] at hD'; cases hD'
      · exact news_keep N keep q hq
    · have := (N q hq).1
      rw [e, hD'] at this; cases this
end
end Mine
namespace Mine
def nameOf : Obj → Option Str
  | ⟨_, _, .seq xs _, _⟩ => (match xs[0]? with
    | some (Value.str nm _) => some nm
    | _ => none)
  | _ => none
def nameAt (h : Heap) (v : Value) : Option Str := match v with
  | .ref t => (h.get? t).bind nameOf
  | _ => none
def pairObj (nm : Str) (tk : Tok) (val : Value) : Obj := { cls := .type "tuple", data := .seq #[.str nm tk, val] }
theorem nameAt_pair {h : Heap} {t : Addr} {nm : Str} {tk : Tok} {val : Value} (e : h.get? t = some (pairObj nm tk val)) : nameAt h (.ref t) = some nm := by
  unfold nameAt
  simp only [e]
  rfl
/-- the test «lower of the first sign's name is not the key» -/
def notKey (h : Heap) (key : Str) (v : Value) : Bool := match nameAt h v with
  | some nm => !(Txt.lower nm == key)
  | none => true
/-- the items are pairs of a text and a value, each text short -/
def Pairs (h : Heap) (its : List Value) (ps : List (Str × Value)) : Prop := Paired (fun v q => ∃ t tk, v = .ref t ∧ h.get? t = some (pairObj q.1 tk q.2) ∧ q.1.length ≤ 1000) its ps
theorem Pairs.keeps {h h' : Heap} {its : List Value} {ps : List (Str × Value)} (P : Pairs h its ps) (k : ∀ b o, h.get? b = some o → h'.get? b = some o) : Pairs h' its ps := by
  unfold Pairs at *
  induction P with
  | nil => exact .nil
  | cons a _ ih =>
    obtain ⟨t, tk, e1, e2, e3⟩ := a
    exact .cons ⟨t, tk, e1, k _ _ e2, e3⟩ ih
theorem Pairs.at_ {h : Heap} {its : List Value} {ps : List (Str × Value)} (P : Pairs h its ps) : ∀ (i : Nat) v, its[i]? = some v → ∃ t nm tk val, v = .ref t ∧ h.get? t = some (pairObj nm tk val) ∧ nm.length ≤ 1000 ∧ ps[i]? = some (nm, val) := by
  unfold Pairs at P
  induction P with
  | nil => intro i v e; simp at e
  | cons a _ ih =>
    intro i v e
    cases i with
    | zero =>
      simp only [List.getElem?_cons_zero, Option.some.injEq] at e
      subst e
      obtain ⟨t, tk, e1, e2, e3⟩ := a
      exact ⟨t, _, tk, _, e1, e2, e3, rfl⟩
    | succ i =>
      simp only [List.getElem?_cons_succ] at e ⊢
      exact ih i v e
theorem Pairs.notKey {h : Heap} {its : List Value} {ps : List (Str × Value)} {key : Str} (P : Pairs h its ps) : Pairs h (its.filter (notKey h key)) (ps.filter fun q => !(Txt.lower q.1 == key)) := by
  unfold Pairs at *
  induction P with
  | nil => exact .nil
  | @cons v q _ _ a _ ih =>
    obtain ⟨t, tk, e1, e2, e3⟩ := a
    have e : Mine.notKey h key v = !(Txt.lower q.1 == key) := by
      subst e1
      unfold Mine.notKey
      rw [nameAt_pair e2]
    rw [List.filter_cons, List.filter_cons, e]
    cases (!(Txt.lower q.1 == key)) with
    | true => exact .cons ⟨t, tk, e1, e2, e3⟩ ih
    | false => exact ih
theorem Pairs.length {h : Heap} {its : List Value} {ps : List (Str × Value)} (P : Pairs h its ps) : its.length = ps.length := by
  unfold Pairs at P
  induction P with
  | nil => rfl
  | cons _ _ ih => rw [List.length_cons, List.length_cons, ih]

/-- the same by the ledger -/
def PairsN (news : List (Addr × Obj)) (its : List Value) (ps : List (Str × Value)) : Prop := Paired (fun v q => ∃ t tk, v = .ref t ∧ (t, pairObj q.1 tk q.2) ∈ news ∧ q.1.length ≤ 1000) its ps
theorem Paired.imp {α β : Type} {F G : α → β → Prop} {a : List α} {b : List β} (h : Paired F a b) (k : ∀ x y, F x y → G x y) : Paired G a b := by
  induction h with
  | nil => exact .nil
  | cons x _ ih => exact .cons (k _ _ x) ih
theorem PairsN.mono {news news' : List (Addr × Obj)} {its : List Value} {ps : List (Str × Value)} (P : PairsN news its ps) (k : ∀ p ∈ news, p ∈ news') : PairsN news' its ps :=
  Paired.imp P fun _ _ ⟨t, tk, e1, e2, e3⟩ => ⟨t, tk, e1, k _ e2, e3⟩
theorem PairsN.here {h₀ h : Heap} {L : Addr} {news : List (Addr × Obj)} {its : List Value} {ps : List (Str × Value)} (P : PairsN news its ps) (N : News h₀ L h news) : Pairs h its ps :=
  Paired.imp P fun _ _ ⟨t, tk, e1, e2, e3⟩ => ⟨t, tk, e1, (N _ e2).1, e3⟩
theorem PairsN.upd {h₀ h : Heap} {L l : Addr} {o o' : Obj} {news : List (Addr × Obj)} {its : List Value} {ps : List (Str × Value)} (P : PairsN news its ps) (N : News h₀ L h news) (hl : (l, o) ∈ news) (ho : o.cls ≠ .type "tuple") : PairsN (upd l o' news) its ps :=
  Paired.imp P fun _ _ ⟨t, tk, e1, e2, e3⟩ => ⟨t, tk, e1, mem_upd e2 (news_ne N e2 hl fun e => ho e.symm), e3⟩
theorem PairsN.notKey {h₀ h : Heap} {L : Addr} {news : List (Addr × Obj)} {its : List Value} {ps : List (Str × Value)} {key : Str} (P : PairsN news its ps) (N : News h₀ L h news) : PairsN news (its.filter (notKey h key)) (ps.filter fun q => !(Txt.lower q.1 == key)) := by
  unfold PairsN at *
  induction P with
  | nil => exact .nil
  | @cons v q _ _ a _ ih =>
    obtain ⟨t, tk, e1, e2, e3⟩ := a
    have e : Mine.notKey h key v = !(Txt.lower q.1 == key) := by
      subst e1
      unfold Mine.notKey
      rw [nameAt_pair (N _ e2).1]
    rw [List.filter_cons, List.filter_cons, e]
    cases (!(Txt.lower q.1 == key)) with
    | true => exact .cons ⟨t, tk, e1, e2, e3⟩ ih
    | false => exact ih
theorem PairsN.length {news : List (Addr × Obj)} {its : List Value} {ps : List (Str × Value)} (P : PairsN news its ps) : its.length = ps.length := by
  unfold PairsN at P
  induction P with
  | nil => rfl
  | cons _ _ ih => rw [List.length_cons, List.length_cons, ih]
theorem PairsN.snoc {news : List (Addr × Obj)} {its : List Value} {ps : List (Str × Value)} {t : Addr} {nm : Str} {tk : Tok} {v : Value} (P : PairsN news its ps) (h : (t, pairObj nm tk v) ∈ news) (hl : nm.length ≤ 1000) : PairsN news (its ++ [.ref t]) (ps ++ [(nm, v)]) :=
  PySem.Paired.snoc P ⟨t, tk, rfl, h, hl⟩
theorem PairsN.at_ {news : List (Addr × Obj)} {its : List Value} {ps : List (Str × Value)} (P : PairsN news its ps) : ∀ (i : Nat) v, its[i]? = some v → ∃ t nm tk val, v = .ref t ∧ (t, pairObj nm tk val) ∈ news ∧ nm.length ≤ 1000 ∧ ps[i]? = some (nm, val) := by
  unfold PairsN at P
  induction P with
  | nil => intro i v e; simp at e
  | cons a _ ih =>
    intro i v e
    cases i with
    | zero =>
      simp only [List.getElem?_cons_zero, Option.some.injEq] at e
      subst e
      obtain ⟨t, tk, e1, e2, e3⟩ := a
      exact ⟨t, _, tk, _, e1, e2, e3, rfl⟩
    | succ i =>
      simp only [List.getElem?_cons_succ] at e ⊢
      exact ih i v e
theorem eq_cps (a b : Str) : (a.cps.toList == b.cps.toList) = (a == b) := by
  obtain ⟨⟨x⟩⟩ := a
  obtain ⟨⟨y⟩⟩ := b
  by_cases h : x = y
  · subst h; simp
  · have h1 : (Str.mk ⟨x⟩ == Str.mk ⟨y⟩) = false := by
      rw [beq_eq_false_iff_ne]
      intro e
      injection e with e
      injection e with e
      exact h e
    rw [h1]
    simpa using h
section
variable {prog : Program} {w : World} {A : Around} {h₀ : Heap} {L l : Addr} {m : Str → Option Value} {news : List (Addr × Obj)} {env : Env}
theorem quiet_del {pl : Sem Bool} {scope : Scope} {cl : List (Str × Addr)} {p0 p1 p2 p3 p4 p5 p6 p7 : Pos} {its : Array Value} {ps : List (Str × Value)} {I c : Addr} {oc : Obj} {key : Str} {tkk : Tok} {s₂ : Shared} {H : Heap}
    (hk : ∀ C, (compEnvC scope cl C env).scope.kind = .function) (hv : ∀ C, (compEnvC scope cl C env).kindOf (Str.ofString "kv") = some .local) (hn : ∀ C, (compEnvC scope cl C env).kindOf (Str.ofString "name") = some .cell)
    (hcl : cl.lookup (Str.ofString "name") = some c) (hc : H.get? c = some oc) (hoc : oc.data = .cell (some (.str key tkk)))
    (hcall : ∀ C, eval (.Call (.Attribute (.Subscript (.Name (Str.ofString "kv") p1) (.Constant (.int 0) 0 p2) p3) (Str.ofString "lower") p4) [] [] p5) (compEnvC scope cl C env) = (do
      let ov ← eval (.Subscript (.Name (Str.ofString "kv") p1) (.Constant (.int 0) 0 p2) p3) (compEnvC scope cl C env)
      standAt p4.atName
      let (f, first) ← holding [ov] (getMethod ov (Str.ofString "lower") pl)
      callWith p5 f first (backTo p5 (starEach [] (compEnvC scope cl C env))) []))
    (P : Pairs H its.toList ps) (kH : ∀ b o, H.get? b = some o → s₂.heap.get? b = some o) (hI : ∀ t o, H.get? t = some o → t ≠ I) :
    QuietOnC prog w A env scope cl (Str.ofString "kv") [.Compare (.Call (.Attribute (.Subscript (.Name (Str.ofString "kv") p1) (.Constant (.int 0) 0 p2) p3) (Str.ofString "lower") p4) [] [] p5) [.NotEq] [.Name (Str.ofString "name") p6] p7] (.Name (Str.ofString "kv") p0) [I] (fun i v => its[i]? = some v) (notKey H key) (fun v y => y = v) s₂ := by
  refine ⟨fun C i v s₃ m₃ E' hC hP hn₃ hm₃ hk₃ _ => ?_, fun C i v s₃ m₃ E' hC hP _ hn₃ hm₃ hk₃ _ => ?_⟩
  · obtain ⟨t, nm, tk, val, rfl, ht, hsm, _⟩ := P.at_ i v (by rw [Array.getElem?_toList]; exact hP)
    have ht₃ := hk₃ t _ (fun e => hI t _ ht (List.mem_singleton.mp e)) (kH _ _ ht)
    have hc₃ := hk₃ c _ (fun e => hI c _ hc (List.mem_singleton.mp e)) (kH _ _ hc)
    have hT : IsTup s₃.heap t #[.str nm tk, val] := ⟨_, ht₃, rfl, 0, rfl⟩
    refine wpAny_tests_one (wpAny_isTrue_Compare1 ?_)
    refine MethodCall_ ?_ (hcall C)
    refine Subscript_ ?_
    refine wpAny_Name (wpAny_loadName_local (hk C) (hv C) hn₃ hm₃ ?_)
    refine wpAny_Constant_int ?_
    refine item_tupleT (l := [.str nm tk, val]) hT (by decide) (by decide) rfl rfl ?_
    refine GM.lower ?_
    refine callWith_method0 ?_
    refine SCL.lower (by omega) fun _ => ?_
    refine wpAny_Name (wpAny_loadName_cell (hk C) (hn C) hcl ⟨oc, hc₃, hoc⟩ ?_)
    refine ne_str ?_
    refine wpAny_truthy_bool ⟨?_, ⟨_, _, rfl, fun _ _ e => e⟩⟩
    unfold notKey
    rw [nameAt_pair ht]
    rfl
  · refine wpAny_Name (wpAny_loadName_local (hk C) (hv C) hn₃ hm₃ ?_)
    exact ⟨rfl, ⟨_, _, rfl, fun _ _ e => e⟩⟩
theorem paired_eq {l₁ l₂ : List Value} (h : Paired (fun v y => y = v) l₁ l₂) : l₂ = l₁ := by
  induction h with
  | nil => rfl
  | cons a _ ih => rw [a, ih]
theorem ListComp_del {E : Value → Shared → Prop} {s : Shared} {pl : Sem Bool} {scope : Scope} {cl : List (Str × Addr)} {p0 p1 p2 p3 p4 p5 p6 p7 px pos : Pos} {iter : Expr} {its : Array Value} {n : Nat} {ps : List (Str × Value)} {c : Addr} {oc : Obj} {key : Str} {tkk : Tok} {Q : Value → Shared → Prop}
    (hh : A.handled = none) (F : Fr h₀ L s.heap m) (N : News h₀ L s.heap news) (hl : (l, listOf its n) ∈ news) (hsz : its.size ≤ sizeLine) {n0 : List (Addr × Obj)} (P : PairsN n0 its.toList ps) (hn0 : ∀ p ∈ n0, p ∈ news)
    (hcn : (c, oc) ∈ news) (hoc : oc.data = .cell (some (.str key tkk)))
    (hclos : closureFor scope env = pure cl) (hcell : ∀ y ∈ scope.names, y.2 ≠ .cell) (hkind : scope.kind = .function)
    (hnames : ∀ y ∈ scope.names, y.2 = .local → scope.names.lookup y.1 = some .local) (hx : scope.names.lookup (Str.ofString "kv") = some .local)
    (hk : ∀ C, (compEnvC scope cl C env).scope.kind = .function) (hv : ∀ C, (compEnvC scope cl C env).kindOf (Str.ofString "kv") = some .local) (hn : ∀ C, (compEnvC scope cl C env).kindOf (Str.ofString "name") = some .cell)
    (hcl : cl.lookup (Str.ofString "name") = some c)
    (hcall : ∀ C, eval (.Call (.Attribute (.Subscript (.Name (Str.ofString "kv") p1) (.Constant (.int 0) 0 p2) p3) (Str.ofString "lower") p4) [] [] p5) (compEnvC scope cl C env) = (do
      let ov ← eval (.Subscript (.Name (Str.ofString "kv") p1) (.Constant (.int 0) 0 p2) p3) (compEnvC scope cl C env)
      standAt p4.atName
      let (f, first) ← holding [ov] (getMethod ov (Str.ofString "lower") pl)
      callWith p5 f first (backTo p5 (starEach [] (compEnvC scope cl C env))) []))
    (hs : ∀ x, foldedSetIterable iter env x = pure x)
    (hiter : ∀ Q' : Value → Shared → Prop, (∀ tk, Q' (.ref l) { s with toks := tk }) → wpAny (model prog w) A (eval iter env) Q' E s)
    (hQ : ∀ D h' tk k ys, Fr h₀ L h' m → News h₀ L h' ((D, listOf ys k) :: news) → (∀ q ∈ news, q.1 ≠ D) →
      PairsN n0 ys.toList (ps.filter fun q => !(Txt.lower q.1 == key)) → ys.size ≤ its.size → Q (.ref D) { s with heap := h', toks := tk }) :
    wpAny (model prog w) A (eval (.ListComp (.Name (Str.ofString "kv") p0) [⟨.Name (Str.ofString "kv") px, iter, [.Compare (.Call (.Attribute (.Subscript (.Name (Str.ofString "kv") p1) (.Constant (.int 0) 0 p2) p3) (Str.ofString "lower") p4) [] [] p5) [.NotEq] [.Name (Str.ofString "name") p6] p7], 0⟩] scope pos) env) Q E s := by
  refine wpAny_ListComp_free (notKey s.heap key) (fun v y => y = v) hclos hcell hkind hnames hx (hiter _ fun tk => ?_) hs
  refine comp_tail (s := { s with toks := tk }) hh F N hl hsz (fun s₂ ⟨o, e⟩ F₂ N₂ => ?_) (fun D h' tk' ys k F' N' hP hD keep => ?_)
  · refine quiet_del hk hv hn hcl (N _ hcn).1 hoc hcall (P.here (news_mono N hn0)) (fun b o' e' => ?_) (fun t o' e' => Nat.ne_of_lt (Heap.lt_size e'))
    rw [e]
    exact Heap.get?_push_of_some _ e'
  · have ey := paired_eq hP
    refine hQ D h' tk' k ys F' N' hD ?_ ?_
    · rw [ey]; exact P.notKey (news_mono N hn0)
    · have := List.length_filter_le (notKey s.heap key) its.toList
      rw [← ey] at this
      simpa using this

theorem add_end {h : Heap} {l t : Addr} {pre : List (Addr × Obj)} {its : Array Value} {n k : Nat} {ps : List (Str × Value)} {nm : Str} {tk : Tok} {v : Value} (N : News h₀ L h ((t, pairObj nm tk v) :: pre)) (hsub : ∀ p ∈ news, p ∈ pre)
    (hl : (l, listOf its n) ∈ news) (P : PairsN news its.toList ps) (hn : nm.length ≤ 1000) :
    PairsN (upd l (listOf (its.push (.ref t)) k) ((t, pairObj nm tk v) :: news)) (its.push (.ref t)).toList (ps ++ [(nm, v)]) := by
  have N₀ : News h₀ L h ((t, pairObj nm tk v) :: news) := news_mono N fun p hp => (List.mem_cons.mp hp).elim (fun e => List.mem_cons.mpr (.inl e)) fun e => List.mem_cons_of_mem _ (hsub p e)
  have P₁ := (P.mono fun p hp => List.mem_cons_of_mem (t, pairObj nm tk v) hp).upd (o' := listOf (its.push (.ref t)) k) N₀ (List.mem_cons_of_mem _ hl) (by show Value.type "list" ≠ Value.type "tuple"; decide)
  rw [Array.toList_push]
  exact P₁.snoc (tk := tk) (mem_upd (List.mem_cons_self) (news_ne N₀ (List.mem_cons_self) (List.mem_cons_of_mem _ hl) (by show Value.type "tuple" ≠ Value.type "list"; decide))) hn
theorem upd_sub {l : Addr} {o : Obj} {a b : List (Addr × Obj)} (h : ∀ p ∈ a, p ∈ b) : ∀ p ∈ upd l o a, p ∈ upd l o b := by
  intro p hp
  unfold upd at *
  rw [List.mem_map] at *
  obtain ⟨q, hq, e⟩ := hp
  exact ⟨q, h q hq, e⟩
end
end Mine
namespace Mine
section
variable {prog : Program} {w : World} {A : Around} {E : Value → Shared → Prop} {s : Shared} {h₀ : Heap} {L l : Addr} {m : Str → Option Value} {news : List (Addr × Obj)}
theorem setItem_all {D sl : Addr} {its ys : Array Value} {n k : Nat} {Q : Unit → Shared → Prop} (hl : s.heap.get? l = some (listOf its n)) (hD : s.heap.get? D = some (listOf ys k)) (hs : s.heap.IsSliceOf sl .none .none .none)
    (hlD : l ≠ D) (hsz : its.size + ys.size ≤ sizeLine) (h : ∀ h' n', Heap.SameBut l s.heap h' → h'.get? l = some (listOf ys n') → Q () { s with heap := h' }) :
    wpAny (model prog w) A (setItem (.ref l) (.ref sl) (.ref D)) Q E s := by
  have hL : s.heap.IsList l its := ⟨_, hl, rfl, n, rfl⟩
  have hLD : s.heap.IsList D ys := ⟨_, hD, rfl, k, rfl⟩
  obtain ⟨os, hos, hcs, hds⟩ := id hs
  have hTs : s.TypeIs (.ref sl) "slice" := ⟨os, hos, hcs⟩
  unfold setItem
  try with_reducible refine wpAny_holding ?_
  first | refine wpAny_bind (wpAny_pure ?_) | skip
  refine wpAny_bind (wpAny_sequenceKey hL.typeIs (by decide) ?_)
  refine wpAny_bind (wpAny_callSpecial?_slot (name := Str.ofString "__setitem__") hL.typeIs slot_list_setitem
    (wpAny_call_entry slot_list_setitem hL.typeIs entry_list_setitem ?_ (args_list_setitem _ _ _)))
  show wpAny _ _ (Builtin.List.listSubscript? (.ref sl) >>= _) _ _ s
  refine wpAny_bind ?_
  unfold Builtin.List.listSubscript?
  refine wpAny_bind (wpAny_specialOf hTs slice_no_index ?_)
  simp only [Option.isNone_none, if_true]
  refine wpAny_pure ?_
  show wpAny _ _ (typeOf (.ref sl) >>= _) _ _ s
  refine wpAny_bind (wpAny_typeOf hTs ?_)
  rw [if_neg (by decide)]
  rw [listSliceParts_eq]
  refine wpAny_bind (wpAny_bind (wpAny_field hos hds (x := .none) rfl (wpAny_bind (wpAny_listPart .none ?_))))
  rw [if_neg (by decide)]
  refine wpAny_bind (wpAny_field hos hds (x := .none) rfl (wpAny_bind (wpAny_listPart .none ?_)))
  refine wpAny_bind (wpAny_field hos hds (x := .none) rfl (wpAny_bind (wpAny_listPart .none (wpAny_pure ?_))))
  have hne : Builtin.List.listSameRef (.ref l) (.ref D) = false := by
    show (l == D) = false
    exact beq_eq_false_iff_ne.mpr hlD
  dsimp only
  rw [hne, if_neg Bool.false_ne_true]
  refine wpAny_bind ?_
  unfold Builtin.List.listAllItems
  refine wpAny_bind (wpAny_typeOf hLD.typeIs ?_)
  rw [if_pos (by decide)]
  unfold Builtin.List.listItems
  refine wpAny_bind (wpAny_seqItems hD rfl (wpAny_pure ?_))
  refine wpAny_bind ?_
  refine wpAny_bind (wpAny_seqItems hl rfl (wpAny_pure ?_))
  refine wpAny_bind (wpAny_of_eq (sliceIndices_raw none none none its.size (by simp)) ?_)
  have hb : sliceBounds none none none its.size = (0, (its.size : Int), 1) := rfl
  rw [hb]
  dsimp only
  rw [if_pos (by decide)]
  refine wpAny_bind (wpAny_rule ?_)
  rw [if_neg (by simp [Builtin.List.listTooLong]; omega)]
  have e1 : (max (0 : Int) (its.size : Int)).toNat = its.size := by
    rw [Int.max_eq_right (by omega)]; rfl
  have ef : (its.extract 0 (0 : Int).toNat ++ ys ++ its.extract (max (0 : Int) (its.size : Int)).toNat its.size) = ys := by
    rw [e1]; simp
  refine wpAny_bind ?_
  show wpAny _ _ (updateSeq l _) _ _ _
  refine wpAny_updateSeq hl rfl ?_ (by omega) (by rw [ef]; omega)
  have hm : Obj.mapSeq (fun xs => xs.extract 0 (0 : Int).toNat ++ ys ++ xs.extract (max (0 : Int) (its.size : Int)).toNat xs.size) (listOf its n) = listOf ys (if ys.size == its.size then n else n + 1) := by
    unfold Obj.mapSeq
    dsimp only
    rw [ef]
  have hg : (s.heap.update l (Obj.mapSeq fun xs => xs.extract 0 (0 : Int).toNat ++ ys ++ xs.extract (max (0 : Int) (its.size : Int)).toNat xs.size)).get? l = some (listOf ys (if ys.size == its.size then n else n + 1)) := by
    rw [Heap.get?_update_self _ hl (by rw [hm]; rfl), hm]
  refine wpAny_bind (wpAny_letGo (wpAny_pure ⟨.none, rfl, wpAny_pure ?_⟩))
  exact h _ _ (Heap.SameBut.update ..) hg
/-- the whole list laid anew, by the ledger -/
theorem setAll_L {D sl : Addr} {its ys : Array Value} {n k : Nat} {Q : Unit → Shared → Prop} (F : Fr h₀ L s.heap m) (N : News h₀ L s.heap news) (hl : (l, listOf its n) ∈ news) (hD : (D, listOf ys k) ∈ news) (hs : s.heap.IsSliceOf sl .none .none .none)
    (hlD : l ≠ D) (hsz : its.size + ys.size ≤ sizeLine) (h : ∀ h' n', Fr h₀ L h' m → News h₀ L h' (upd l (listOf ys n') news) → Q () { s with heap := h' }) :
    wpAny (model prog w) A (setItem (.ref l) (.ref sl) (.ref D)) Q E s :=
  setItem_all (N _ hl).1 (N _ hD).1 hs hlD hsz fun h' n' hs' ho' => h h' n' (F.change hs' (N _ hl).2.1 (N _ hl).2.2) (news_upd N hl hs' ho')
abbrev sliceAll : Obj := { cls := .type "slice", data := .fields #[.none, .none, .none] }
theorem slice_K {env : Env} {p : Pos} {Q : Value → Shared → Prop} (F : Fr h₀ L s.heap m) (N : News h₀ L s.heap news)
    (h : ∀ sl h', Fr h₀ L h' m → News h₀ L h' ((sl, sliceAll) :: news) → Q (.ref sl) { s with heap := h' }) : wpAny (model prog w) A (eval (.Slice none none none p) env) Q E s := by
  refine wpAny_Slice ?_
  rw [evalPart_none]
  refine wpAny_pure (wpAny_pure (wpAny_pure ?_))
  exact h _ _ (F.push _) (N.push F _)
theorem upd_cons {a : Addr × Obj} {o : Obj} {p : Addr × Obj} (h : p ∈ upd l o news) : p ∈ upd l o (a :: news) := by
  unfold upd at *
  rw [List.map_cons]
  exact List.mem_cons_of_mem _ h
end
end Mine
namespace Mine
theorem slicePick_all (its : Array Value) : slicePick its none none none = its := by
  have h := slicePick_run its 0 its.size (Nat.le_refl _) (Nat.zero_le _)
  have e : slicePick its none none none = slicePick its (some ((0 : Nat) : Int)) (some (its.size : Int)) none := by
    unfold slicePick
    have e1 : sliceBounds none none none its.size = (0, (its.size : Int), 1) := rfl
    have e2 : sliceBounds (some ((0 : Nat) : Int)) (some (its.size : Int)) none its.size = (0, (its.size : Int), 1) := by
      unfold sliceBounds
      simp
      omega
    rw [e1, e2]
  rw [e, h, List.drop_zero, Nat.sub_zero, List.take_of_length_le (by simp)]
section
variable {prog : Program} {w : World} {A : Around} {E : Value → Shared → Prop} {s : Shared} {h₀ : Heap} {L l : Addr} {m : Str → Option Value} {news : List (Addr × Obj)}
theorem len_L {its : Array Value} {n : Nat} {Q : Value → Shared → Prop} (N : News h₀ L s.heap news) (hl : (l, listOf its n) ∈ news) (hsz : its.size ≤ 1000000)
    (h : ∀ t t', Q (.int its.size t) { s with toks := t' }) : wpAny (model prog w) A (call (.builtin "len") [.ref l]) Q E s :=
  Calls.call_len_list ⟨_, (N _ hl).1, rfl, n, rfl⟩ (by omega) (h _ _)
end
end Mine
namespace Mine
section
variable {prog : Program} {w : World} {A : Around} {E : Value → Shared → Prop} {s : Shared} {h₀ : Heap} {l : Addr} {m : Str → Option Value} {news : List (Addr × Obj)} {env : Env}

/-- what a turn of a loop leaves: the state, the frame, the ledger, the iterator's entry, the word -/
def TurnEnd (h₀ : Heap) (L : Addr) (s : Shared) (it : Addr × Obj) (J : (Str → Option Value) → List (Addr × Obj) → Prop) (Q : Flow → Shared → Prop) (f : Flow) (s₃ : Shared) : Prop :=
  match f with
  | .ret v => Q (.ret v) s₃
  | .brk => Q .next s₃
  | _ => ∃ h' t' m₂ n₂, s₃ = { s with heap := h', toks := t' } ∧ Fr h₀ L h' m₂ ∧ News h₀ L h' n₂ ∧ it ∈ n₂ ∧ J m₂ n₂
def iterNames : List String := ["list_iterator", "range_iterator", "str_ascii_iterator", "dict_itemiterator", "tuple_iterator", "slice"]
def isIter (o : Obj) : Bool := match o.cls with | .type t => iterNames.contains t | _ => false
theorem isIter_of {o : Obj} {t : String} (h : o.cls = .type t) (ht : iterNames.contains t = true) : isIter o = true := by unfold isIter; rw [h]; exact ht
theorem isIter_absurd {o : Obj} {t : String} (h : o.cls = .type t) (ht : iterNames.contains t = true) (hn : isIter o = false) : False := by rw [isIter_of h ht] at hn; cases hn

theorem letOwned_list {target : Expr} {I l : Addr} {i : Nat} {v : Value} {Q : Unit → Shared → Prop} (hit : s.heap.IsListIter I l i) (hQ : Q () s) :
    wpAny (model prog w) A (letOwnedTupleGo target (.ref I) v) Q E s := by
  obtain ⟨o, ho, hc, hd⟩ := hit
  have fin : wpAny (model prog w) A (do
      let o ← load I
      match o.cls, o.data with
      | .type n, .fields vs =>
        if ["enumerate", "zip", "dict_itemiterator", "dict_reverseitemiterator", "odict_iterator", "itertools.zip_longest", "itertools.pairwise"].contains n && vs[0]? == some (rawInt (match v with | .ref a => a | _ => 0)) then
          rule "for.unpacks-the-owned-tuple"
          updateField I 0 .none
      | _, _ => pure ()) Q E s := by
    refine wpAny_bind (wpAny_load ho ?_)
    rw [hc, hd]
    dsimp only
    rw [if_neg (by
      intro h
      rw [show (["enumerate", "zip", "dict_itemiterator", "dict_reverseitemiterator", "odict_iterator", "itertools.zip_longest", "itertools.pairwise"].contains "list_iterator") = false from by decide, Bool.false_and] at h
      cases h)]
    exact wpAny_pure hQ
  unfold letOwnedTupleGo
  split
  · cases v <;> first | exact fin | exact wpAny_pure hQ
  · cases v <;> first | exact fin | exact wpAny_pure hQ
  · exact wpAny_pure hQ

theorem fr_but' {L I : Addr} {h h' : Heap} (F : Fr h₀ L h m) (k : ∀ b o, b ≠ I → h.get? b = some o → h'.get? b = some o) (hL : L ≠ I) (h0 : h₀.get? I = none) : Fr h₀ L h' m := by
  obtain ⟨oL, es, ep, a, r⟩ := F.ns
  exact ⟨⟨oL, es, ep, k _ _ hL a, r⟩, fun b o e => k b o (fun q => by rw [q, h0] at e; cases e) (F.keep b o e), F.above⟩

theorem for_list {target : Expr} {body : List Stmt} {its : Array Value} {n : Nat} {Q : Flow → Shared → Prop} (J : Nat → (Str → Option Value) → List (Addr × Obj) → Prop)
    (hh : A.handled = none) (F : Fr h₀ env.locals s.heap m) (N : News h₀ env.locals s.heap news)
    (hJ : ∀ i m n n' I, (∀ p ∈ news, p.1 ≠ I) → (∀ p ∈ n, isIter p.2 = false → p.1 ≠ I) → J i m n → (∀ p ∈ n, p.1 ≠ I → p ∈ n') → J i m n') (hl : ∀ i m n', J i m n' → (l, listOf its n) ∈ n') (j0 : J 0 m news)
    (turn : ∀ i v m₁ n₁ h tk it, its[i]? = some v → J i m₁ n₁ → isIter it.2 = true → it ∈ n₁ → Fr h₀ env.locals h m₁ → News h₀ env.locals h n₁ →
      wpAny (model prog w) A (assign target env v) (fun _ s₂ => wpAny (model prog w) A (execs body env) (TurnEnd h₀ env.locals s it (J (i + 1)) Q) (notedBy (model prog w) A env fun e s' => cameBackBy (model prog w) A env E e s') s₂)
        (notedBy (model prog w) A env fun e s' => cameBackBy (model prog w) A env E e s') { s with heap := h, toks := tk })
    (done : ∀ m₁ n₁ h tk, J its.size m₁ n₁ → Fr h₀ env.locals h m₁ → News h₀ env.locals h n₁ → Q .next { s with heap := h, toks := tk }) :
    wpAny (model prog w) A (pyIter (.ref l)) (fun it s₂ => codeAny (model prog w) A (.forLoop target it body [] env) (fun r s' => match r with | .ok f => Q f s' | .error e => cameBackBy (model prog w) A env E e s') s₂) E s := by
  have z := N _ (hl _ _ _ j0)
  have hL : s.heap.IsList l its := ⟨_, z.1, rfl, n, rfl⟩
  have hlt := Heap.lt_size z.1
  refine wpAny_pyIter_list hL ?_
  have up : ∀ b o, s.heap.get? b = some o → (s.heap.push { cls := .type "list_iterator", data := .fields #[.ref l, .int 0 0] }).get? b = some o := fun b o e => Heap.get?_push_of_some _ e
  have hLI : env.locals ≠ s.heap.objs.size := Nat.ne_of_lt F.ns.lt
  have hI0 : h₀.get? s.heap.objs.size = none := next_is_new F
  have nI : ∀ p ∈ news, p.1 ≠ s.heap.objs.size := fun p hp => Nat.ne_of_lt (Heap.lt_size (N p hp).1)
  generalize hI : s.heap.objs.size = I at *
  refine codeAny_forLoop_any
    (fun k s' => ∃ h' tk m' n' i oI, s' = { s with heap := h', toks := tk } ∧ oI.cls = .type "list_iterator" ∧ oI.data = .fields #[.ref l, .int ((i : Nat) : Int) 0] ∧ Fr h₀ env.locals h' m' ∧ News h₀ env.locals h' n' ∧ (I, oI) ∈ n' ∧ J i m' n' ∧ i ≤ its.size ∧
      k = its.size + 1 - i) ?_ (its.size + 1) ⟨_, s.toks, m, (I, { cls := .type "list_iterator", data := .fields #[.ref l, .int 0 0] }) :: news, 0, _, rfl, rfl, rfl, F.push _, ?_, .head _, hJ _ _ _ _ I nI (fun p hp _ => nI p hp) j0 (fun p hp _ => .tail _ hp), Nat.zero_le _, rfl⟩
  · rintro k s' ⟨h, tk, m', n', i, oI, rfl, hc, hd, F', N', hm, hJ', hi, rfl⟩
    have eI := (N' _ hm).1
    have hit : h.IsListIter I l i := ⟨oI, eI, hc, hd⟩
    have hlm := hl _ _ _ hJ'
    have hls : h.IsList l its := ⟨_, (N' _ hlm).1, rfl, n, rfl⟩
    have keepJ : ∀ (p : Addr × Obj), p ∈ n' → isIter p.2 = false → p.1 ≠ I := fun p hp hni e => by
      have e1 := (N' _ hp).1
      rw [e, eI] at e1
      exact isIter_absurd (by rw [← Option.some.inj e1]; exact hc) (by decide) hni
    cases hv : its[i]? with
    | none =>
      have hsz : i = its.size := Nat.le_antisymm hi (by simpa using hv)
      refine wpAny_pyNext_list_end hh hit hls hv fun h₁ he₁ => wpAny_execs_nil ?_
      have k₁ : ∀ b o, b ≠ I → h.get? b = some o → h₁.get? b = some o := fun b o hb e => he₁ b o hb e
      refine done m' (n'.filter fun p => decide (p.1 ≠ I)) h₁ tk (hsz ▸ hJ _ _ _ _ I nI keepJ hJ' fun p hp hni => ?_) (fr_but' F' k₁ hLI hI0) fun p hp => ?_
      · rw [List.mem_filter, decide_eq_true_eq]
        exact ⟨hp, hni⟩
      · rw [List.mem_filter, decide_eq_true_eq] at hp
        exact ⟨k₁ _ _ hp.2 (N' _ hp.1).1, (N' _ hp.1).2⟩
    | some v =>
      have hlt : i < its.size := (Array.getElem?_eq_some_iff.mp hv).1
      refine wpAny_pyNext_list_item hit hls hv fun h₁ hit₁ hs₁ => ?_
      have k₁ : ∀ b o, b ≠ I → h.get? b = some o → h₁.get? b = some o := fun b o hb e => hs₁.extBut b o hb e
      dsimp only
      refine letOwned_list hit₁ ?_
      obtain ⟨o₁, e₁, c₁, d₁⟩ := id hit₁
      have ii : isIter o₁ = true := isIter_of c₁ (by decide)
      refine wpAny_mono (turn i v m' ((I, o₁) :: n'.filter fun p => decide (p.1 ≠ I)) h₁ tk (I, o₁) hv (hJ _ _ _ _ I nI keepJ hJ' fun p hp hni => ?_) ii (.head _) (fr_but' F' k₁ hLI hI0) fun p hp => ?_) (fun _ s₂ h₂ => wpAny_mono h₂ (fun f s₃ h₃ => ?_) fun _ _ x => x) fun _ _ x => x
      · refine List.mem_cons_of_mem _ ?_
        rw [List.mem_filter, decide_eq_true_eq]
        exact ⟨hp, hni⟩
      · rcases List.mem_cons.mp hp with rfl | hp
        · exact ⟨e₁, Ne.symm hLI, hI0⟩
        · rw [List.mem_filter, decide_eq_true_eq] at hp
          exact ⟨k₁ _ _ hp.2 (N' _ hp.1).1, (N' _ hp.1).2⟩
      · have go : (∃ h' t' m₂ n₂, s₃ = { s with heap := h', toks := t' } ∧ Fr h₀ env.locals h' m₂ ∧ News h₀ env.locals h' n₂ ∧ (I, o₁) ∈ n₂ ∧ J (i + 1) m₂ n₂) → ∃ m_1, m_1 < its.size + 1 - i ∧ ∃ h' tk m' n' i oI, s₃ = { s with heap := h', toks := tk } ∧ oI.cls = .type "list_iterator" ∧ oI.data = .fields #[.ref l, .int ((i : Nat) : Int) 0] ∧ Fr h₀ env.locals h' m' ∧ News h₀ env.locals h' n' ∧ (I, oI) ∈ n' ∧ J i m' n' ∧ i ≤ its.size ∧
            m_1 = its.size + 1 - i := by
          rintro ⟨h', t', m₂, n₂, rfl, F₂, N₂, hm₂, hJ₂⟩
          exact ⟨its.size + 1 - (i + 1), by omega, h', t', m₂, n₂, i + 1, o₁, rfl, c₁, by rw [d₁], F₂, N₂, hm₂, hJ₂, hlt, rfl⟩
        cases f with
        | ret v => exact h₃
        | brk => exact h₃
        | next => exact go h₃
        | cont => exact go h₃
  · intro p hp
    rcases List.mem_cons.mp hp with rfl | hp
    · exact ⟨hI ▸ Heap.get?_push_size _ rfl, Ne.symm hLI, hI0⟩
    · exact ⟨up _ _ (N _ hp).1, (N _ hp).2⟩
theorem for_items {v d : Addr} {od : Obj} {K : Type} [DecidableEq K] {knd : KeyKind prog w K} {elts : List Expr} {x1 : Nat} {pt : Pos} {body : List Stmt} {kvs : List (K × Value)} {Q : Flow → Shared → Prop} (J : Nat → (Str → Option Value) → List (Addr × Obj) → Prop)
    (hh : A.handled = none) (F : Fr h₀ env.locals s.heap m) (N : News h₀ env.locals s.heap news)
    (hJ : ∀ i m n n' I, (∀ p ∈ news, p.1 ≠ I) → (∀ p ∈ n, isIter p.2 = false → p.1 ≠ I) → J i m n → (∀ p ∈ n, p.1 ≠ I → p ∈ n') → J i m n') (hv : (v, ({ cls := .type "dict_items", data := .fields #[.ref d] } : Obj)) ∈ news) (hl : ∀ i m n', J i m n' → (d, od) ∈ n') (hd : od.IsDictOf knd kvs) (j0 : J 0 m news)
    (turn : ∀ i k v key t m₁ n₁ h tk it, kvs[i]? = some (k, v) → knd.is k key = true → (t, ({ cls := .type "tuple", data := .seq #[key, v] } : Obj)) ∈ n₁ → J i m₁ n₁ → isIter it.2 = true → it ∈ n₁ → Fr h₀ env.locals h m₁ → News h₀ env.locals h n₁ →
      wpAny (model prog w) A (assign (.Tuple elts x1 pt) env (.ref t)) (fun _ s₂ => wpAny (model prog w) A (execs body env) (TurnEnd h₀ env.locals s it (J (i + 1)) Q) (notedBy (model prog w) A env fun e s' => cameBackBy (model prog w) A env E e s') s₂)
        (notedBy (model prog w) A env fun e s' => cameBackBy (model prog w) A env E e s') { s with heap := h, toks := tk })
    (done : ∀ m₁ n₁ h tk, J kvs.length m₁ n₁ → Fr h₀ env.locals h m₁ → News h₀ env.locals h n₁ → Q .next { s with heap := h, toks := tk }) :
    wpAny (model prog w) A (pyIter (.ref v)) (fun it s₂ => codeAny (model prog w) A (.forLoop (.Tuple elts x1 pt) it body [] env) (fun r s' => match r with | .ok f => Q f s' | .error e => cameBackBy (model prog w) A env E e s') s₂) E s := by
  have z := N _ (hl _ _ _ j0)
  obtain ⟨es, ep, q1, q2, q3, q4, q5⟩ := hd
  have hD : ∀ h : Heap, h.get? d = some od → h.DictAt knd d kvs ep := fun h e => ⟨od, es, e, q1, q2, q3, q4, q5⟩
  have hV : s.heap.IsItemsView v d := ⟨_, (N _ hv).1, rfl, rfl⟩
  refine wpAny_pyIter_items hV (hD _ z.1) ?_
  have up : ∀ b o, s.heap.get? b = some o → (s.heap.push { cls := .type "dict_itemiterator", data := .fields #[.none, .bool false, .ref d, .int 0 0, .int kvs.length 0, .int ep 0, .none, .none] }).get? b = some o := fun b o e => Heap.get?_push_of_some _ e
  have hLI : env.locals ≠ s.heap.objs.size := Nat.ne_of_lt F.ns.lt
  have hI0 : h₀.get? s.heap.objs.size = none := next_is_new F
  have nI : ∀ p ∈ news, p.1 ≠ s.heap.objs.size := fun p hp => Nat.ne_of_lt (Heap.lt_size (N p hp).1)
  generalize hI : s.heap.objs.size = I at *
  refine codeAny_forLoop_any
    (fun k s' => ∃ h' tk m' n' i ok ov, s' = { s with heap := h', toks := tk } ∧ Fr h₀ env.locals h' m' ∧ News h₀ env.locals h' n' ∧ (I, ({ cls := .type "dict_itemiterator", dict := none, data := .fields #[.none, .bool false, .ref d, .int ((i : Nat) : Int) 0, .int kvs.length 0, .int ep 0, ok, ov], slots := #[] } : Obj)) ∈ n' ∧ J i m' n' ∧ i ≤ kvs.length ∧
      k = kvs.length + 1 - i) ?_ (kvs.length + 1) ⟨_, s.toks, m, (I, { cls := .type "dict_itemiterator", data := .fields #[.none, .bool false, .ref d, .int 0 0, .int kvs.length 0, .int ep 0, .none, .none] }) :: news, 0, .none, .none, rfl, F.push _, ?_, .head _, hJ _ _ _ _ I nI (fun p hp _ => nI p hp) j0 (fun p hp _ => .tail _ hp), Nat.zero_le _, rfl⟩
  · rintro k s' ⟨h, tk, m', n', i, ok, ov, rfl, F', N', hm, hJ', hi, rfl⟩
    have eI := (N' _ hm).1
    have hlm := hl _ _ _ hJ'
    have hds := hD h (N' _ hlm).1
    have keepJ : ∀ (p : Addr × Obj), p ∈ n' → isIter p.2 = false → p.1 ≠ I := fun p hp hni e => by
      have e1 := (N' _ hp).1
      rw [e, eI] at e1
      exact isIter_absurd (t := "dict_itemiterator") (by rw [← Option.some.inj e1]) (by decide) hni
    cases hx : kvs[i]? with
    | none =>
      have hsz : i = kvs.length := Nat.le_antisymm hi (by simpa using hx)
      refine wpAny_pyNext_items_end hh eI hds hx fun h₁ he₁ => wpAny_execs_nil ?_
      have k₁ : ∀ b o, b ≠ I → h.get? b = some o → h₁.get? b = some o := fun b o hb e => he₁ b o hb e
      refine done m' (n'.filter fun p => decide (p.1 ≠ I)) h₁ tk (hsz ▸ hJ _ _ _ _ I nI keepJ hJ' fun p hp hni => ?_) (fr_but' F' k₁ hLI hI0) fun p hp => ?_
      · rw [List.mem_filter, decide_eq_true_eq]
        exact ⟨hp, hni⟩
      · rw [List.mem_filter, decide_eq_true_eq] at hp
        exact ⟨k₁ _ _ hp.2 (N' _ hp.1).1, (N' _ hp.1).2⟩
    | some kv =>
      obtain ⟨key₀, val⟩ := kv
      have hlt : i < kvs.length := (List.getElem?_eq_some_iff.mp hx).1
      refine wpAny_pyNext_items_item eI hds hx fun key h₁ hkey hout ht hsz hk₁ => ?_
      dsimp only
      refine wpAny_letOwnedTupleGo_items hout fun h₂ hit₂ hs₂ => ?_
      have hTI : h.objs.size ≠ I := fun e => by
        have := Heap.lt_size eI
        rw [← e] at this
        exact Nat.lt_irrefl _ this
      have k₂ : ∀ b o, b ≠ I → h.get? b = some o → h₂.get? b = some o := fun b o hb e => hs₂.extBut b o hb (hk₁ b o hb e)
      have ht₂ : h₂.get? h.objs.size = some { cls := .type "tuple", data := .seq #[key, val] } := hs₂.extBut _ _ hTI ht
      have hTL : h.objs.size ≠ env.locals := Ne.symm (Nat.ne_of_lt F'.ns.lt)
      have hT0 : h₀.get? h.objs.size = none := next_is_new F'
      have ii : isIter ({ cls := .type "dict_itemiterator", dict := none, data := .fields #[.none, .bool false, .ref d, .int ((i + 1 : Nat) : Int) 0, .int kvs.length 0, .int ep 0, key, val], slots := #[] } : Obj) = true := isIter_of (t := "dict_itemiterator") rfl (by decide)
      refine wpAny_mono (turn i key₀ val key h.objs.size m' ((I, ({ cls := .type "dict_itemiterator", dict := none, data := .fields #[.none, .bool false, .ref d, .int ((i + 1 : Nat) : Int) 0, .int kvs.length 0, .int ep 0, key, val], slots := #[] } : Obj)) :: (h.objs.size, { cls := .type "tuple", data := .seq #[key, val] }) :: n'.filter fun p => decide (p.1 ≠ I)) h₂ tk (I, _) hx hkey (.tail _ (.head _)) (hJ _ _ _ _ I nI keepJ hJ' fun p hp hni => ?_) ii (.head _) (fr_but' F' k₂ hLI hI0) fun p hp => ?_) (fun _ s₂ h₂ => wpAny_mono h₂ (fun f s₃ h₃ => ?_) fun _ _ x => x) fun _ _ x => x
      · refine List.mem_cons_of_mem _ (List.mem_cons_of_mem _ ?_)
        rw [List.mem_filter, decide_eq_true_eq]
        exact ⟨hp, hni⟩
      · rcases List.mem_cons.mp hp with rfl | hp
        · exact ⟨hit₂, Ne.symm hLI, hI0⟩
        · rcases List.mem_cons.mp hp with rfl | hp
          · exact ⟨ht₂, hTL, hT0⟩
          · rw [List.mem_filter, decide_eq_true_eq] at hp
            exact ⟨k₂ _ _ hp.2 (N' _ hp.1).1, (N' _ hp.1).2⟩
      · have go : (∃ h' t' m₂ n₂, s₃ = { s with heap := h', toks := t' } ∧ Fr h₀ env.locals h' m₂ ∧ News h₀ env.locals h' n₂ ∧ (I, ({ cls := .type "dict_itemiterator", dict := none, data := .fields #[.none, .bool false, .ref d, .int ((i + 1 : Nat) : Int) 0, .int kvs.length 0, .int ep 0, key, val], slots := #[] } : Obj)) ∈ n₂ ∧ J (i + 1) m₂ n₂) → ∃ m_1, m_1 < kvs.length + 1 - i ∧ ∃ h' tk m' n' i ok ov, s₃ = { s with heap := h', toks := tk } ∧ Fr h₀ env.locals h' m' ∧ News h₀ env.locals h' n' ∧ (I, ({ cls := .type "dict_itemiterator", dict := none, data := .fields #[.none, .bool false, .ref d, .int ((i : Nat) : Int) 0, .int kvs.length 0, .int ep 0, ok, ov], slots := #[] } : Obj)) ∈ n' ∧ J i m' n' ∧ i ≤ kvs.length ∧
            m_1 = kvs.length + 1 - i := by
          rintro ⟨h', t', m₂, n₂, rfl, F₂, N₂, hm₂, hJ₂⟩
          exact ⟨kvs.length + 1 - (i + 1), by omega, h', t', m₂, n₂, i + 1, key, val, rfl, F₂, N₂, hm₂, hJ₂, hlt, rfl⟩
        cases f with
        | ret v => exact h₃
        | brk => exact h₃
        | next => exact go h₃
        | cont => exact go h₃
  · intro p hp
    rcases List.mem_cons.mp hp with rfl | hp
    · exact ⟨hI ▸ Heap.get?_push_size _ rfl, Ne.symm hLI, hI0⟩
    · exact ⟨up _ _ (N _ hp).1, (N _ hp).2⟩

theorem for_range {r : Addr} {a b : Int} {tu tv tw : Tok} {target : Expr} {body : List Stmt} {n : Nat} {Q : Flow → Shared → Prop} (J : Nat → (Str → Option Value) → List (Addr × Obj) → Prop)
    (hh : A.handled = none) (F : Fr h₀ env.locals s.heap m) (N : News h₀ env.locals s.heap news)
    (hr : IsRange s.heap r a b 1 tu tv tw) (hsm : Builtin.Range.small a b 1 = true) (hn : Builtin.Range.rangeSize a b 1 = ((n : Nat) : Int)) (ht : ∀ it v, letOwnedTupleGo target it v = pure ())
    (hJ : ∀ i m n n' I, (∀ p ∈ news, p.1 ≠ I) → (∀ p ∈ n, isIter p.2 = false → p.1 ≠ I) → J i m n → (∀ p ∈ n, p.1 ≠ I → p ∈ n') → J i m n') (j0 : J 0 m news)
    (turn : ∀ i tv m₁ n₁ h tk it, i < n → J i m₁ n₁ → isIter it.2 = true → it ∈ n₁ → Fr h₀ env.locals h m₁ → News h₀ env.locals h n₁ →
      wpAny (model prog w) A (assign target env (.int (a + (i : Nat)) tv)) (fun _ s₂ => wpAny (model prog w) A (execs body env) (TurnEnd h₀ env.locals s it (J (i + 1)) Q) (notedBy (model prog w) A env fun e s' => cameBackBy (model prog w) A env E e s') s₂)
        (notedBy (model prog w) A env fun e s' => cameBackBy (model prog w) A env E e s') { s with heap := h, toks := tk })
    (done : ∀ m₁ n₁ h tk, J n m₁ n₁ → Fr h₀ env.locals h m₁ → News h₀ env.locals h n₁ → Q .next { s with heap := h, toks := tk }) :
    wpAny (model prog w) A (pyIter (.ref r)) (fun it s₂ => codeAny (model prog w) A (.forLoop target it body [] env) (fun r s' => match r with | .ok f => Q f s' | .error e => cameBackBy (model prog w) A env E e s') s₂) E s := by
  refine wpAny_pyIter_range hr hsm ?_
  rw [hn]
  have up : ∀ b' o, s.heap.get? b' = some o → (s.heap.push { cls := .type "range_iterator", data := .fields #[rawInt a, rawInt ((n : Nat) : Int), rawInt 1] }).get? b' = some o := fun b o e => Heap.get?_push_of_some _ e
  have hLI : env.locals ≠ s.heap.objs.size := Nat.ne_of_lt F.ns.lt
  have hI0 : h₀.get? s.heap.objs.size = none := next_is_new F
  have nI : ∀ p ∈ news, p.1 ≠ s.heap.objs.size := fun p hp => Nat.ne_of_lt (Heap.lt_size (N p hp).1)
  generalize hI : s.heap.objs.size = I at *
  refine codeAny_forLoop
    (fun k s' => ∃ h' tk m' n' i, s' = { s with heap := h', toks := tk } ∧ Fr h₀ env.locals h' m' ∧ News h₀ env.locals h' n' ∧ (I, { cls := .type "range_iterator", data := .fields #[rawInt (a + (i : Nat)), rawInt ((n : Int) - (i : Nat)), rawInt 1] }) ∈ n' ∧ J i m' n' ∧ i ≤ n ∧
      k = n + 1 - i) ?_ (n + 1) ⟨_, s.toks, m, (I, { cls := .type "range_iterator", data := .fields #[rawInt a, rawInt ((n : Nat) : Int), rawInt 1] }) :: news, 0, rfl, F.push _, ?_, by simp, hJ _ _ _ _ I nI (fun p hp _ => nI p hp) j0 (fun p hp _ => .tail _ hp), Nat.zero_le _, rfl⟩ (fun v => ht _ v)
  · rintro k s' ⟨h, tk, m', n', i, rfl, F', N', hm, hJ', hi, rfl⟩
    have eI := (N' _ hm).1
    have keepJ : ∀ (p : Addr × Obj), p ∈ n' → isIter p.2 = false → p.1 ≠ I := fun p hp hni e => by
      have e1 := (N' _ hp).1
      rw [e, eI] at e1
      exact isIter_absurd (t := "range_iterator") (by rw [← Option.some.inj e1]) (by decide) hni
    by_cases hlt : i < n
    · refine wpAny_pyNext_range_item eI (by omega) fun h₁ hit₁ hs₁ => ?_
      have k₁ : ∀ b o, b ≠ I → h.get? b = some o → h₁.get? b = some o := fun b o hb e => hs₁.extBut b o hb e
      dsimp only
      have e₁ : h₁.get? I = some { cls := .type "range_iterator", data := .fields #[rawInt (a + ((i + 1 : Nat) : Int)), rawInt ((n : Int) - ((i + 1 : Nat) : Int)), rawInt 1] } := by
        have q1 : a + ((i + 1 : Nat) : Int) = a + (i : Nat) + 1 := by omega
        have q2 : (n : Int) - ((i + 1 : Nat) : Int) = (n : Int) - (i : Nat) - 1 := by omega
        rw [q1, q2]; exact hit₁
      have ii : isIter ({ cls := .type "range_iterator", data := .fields #[rawInt (a + ((i + 1 : Nat) : Int)), rawInt ((n : Int) - ((i + 1 : Nat) : Int)), rawInt 1] } : Obj) = true := isIter_of (t := "range_iterator") rfl (by decide)
      refine wpAny_mono (turn i tk m' ((I, { cls := .type "range_iterator", data := .fields #[rawInt (a + ((i + 1 : Nat) : Int)), rawInt ((n : Int) - ((i + 1 : Nat) : Int)), rawInt 1] }) :: n'.filter fun p => decide (p.1 ≠ I)) h₁ (tk + 1) (I, _) hlt (hJ _ _ _ _ I nI keepJ hJ' fun p hp hni => ?_) ii (.head _) (fr_but' F' k₁ hLI hI0) fun p hp => ?_) (fun _ s₂ h₂ => wpAny_mono h₂ (fun f s₃ h₃ => ?_) fun _ _ x => x) fun _ _ x => x
      · refine List.mem_cons_of_mem _ ?_
        rw [List.mem_filter, decide_eq_true_eq]
        exact ⟨hp, hni⟩
      · rcases List.mem_cons.mp hp with rfl | hp
        · exact ⟨e₁, Ne.symm hLI, hI0⟩
        · rw [List.mem_filter, decide_eq_true_eq] at hp
          exact ⟨k₁ _ _ hp.2 (N' _ hp.1).1, (N' _ hp.1).2⟩
      · have go : (∃ h' t' m₂ n₂, s₃ = { s with heap := h', toks := t' } ∧ Fr h₀ env.locals h' m₂ ∧ News h₀ env.locals h' n₂ ∧ (I, ({ cls := .type "range_iterator", data := .fields #[rawInt (a + ((i + 1 : Nat) : Int)), rawInt ((n : Int) - ((i + 1 : Nat) : Int)), rawInt 1] } : Obj)) ∈ n₂ ∧ J (i + 1) m₂ n₂) → ∃ m_1, m_1 < n + 1 - i ∧ ∃ h' tk m' n' i, s₃ = { s with heap := h', toks := tk } ∧ Fr h₀ env.locals h' m' ∧ News h₀ env.locals h' n' ∧ (I, ({ cls := .type "range_iterator", data := .fields #[rawInt (a + (i : Nat)), rawInt ((n : Int) - (i : Nat)), rawInt 1] } : Obj)) ∈ n' ∧ J i m' n' ∧ i ≤ n ∧
            m_1 = n + 1 - i := by
          rintro ⟨h', t', m₂, n₂, rfl, F₂, N₂, hm₂, hJ₂⟩
          exact ⟨n + 1 - (i + 1), by omega, h', t', m₂, n₂, i + 1, rfl, F₂, N₂, hm₂, hJ₂, hlt, rfl⟩
        cases f with
        | ret v => exact h₃
        | brk => exact h₃
        | next => exact go h₃
        | cont => exact go h₃
    · have hsz : i = n := by omega
      refine wpAny_pyNext_range_end hh eI (by omega) fun h₁ he₁ => wpAny_execs_nil ?_
      have k₁ : ∀ b o, b ≠ I → h.get? b = some o → h₁.get? b = some o := fun b o hb e => he₁ b o hb e
      refine done m' (n'.filter fun p => decide (p.1 ≠ I)) h₁ tk (hsz ▸ hJ _ _ _ _ I nI keepJ hJ' fun p hp hni => ?_) (fr_but' F' k₁ hLI hI0) fun p hp => ?_
      · rw [List.mem_filter, decide_eq_true_eq]
        exact ⟨hp, hni⟩
      · rw [List.mem_filter, decide_eq_true_eq] at hp
        exact ⟨k₁ _ _ hp.2 (N' _ hp.1).1, (N' _ hp.1).2⟩
  · intro p hp
    rcases List.mem_cons.mp hp with rfl | hp
    · exact ⟨hI ▸ Heap.get?_push_size _ rfl, Ne.symm hLI, hI0⟩
    · exact ⟨up _ _ (N _ hp).1, (N _ hp).2⟩

theorem assign_pair {x₁ x₂ : Str} {p₁ p₂ p : Pos} {k : Nat} {t : Addr} {a b : Value} {n : Nat} {Q : Unit → Shared → Prop} (hh : A.handled = none) (F : Fr h₀ env.locals s.heap m) (N : News h₀ env.locals s.heap news)
    (ht : (t, ({ cls := .type "tuple", data := .seq #[a, b] n } : Obj)) ∈ news) (h1 : env.kindOf x₁ = some .local) (h2 : env.kindOf x₂ = some .local) (hp : (env.scope.kind == .class || (env.scope.kind == .module && env.locals != env.globals)) = false)
    (h : ∀ h' tk, Fr h₀ env.locals h' (fun y => if y = x₂ then some b else if y = x₁ then some a else m y) → News h₀ env.locals h' news → Q () { s with heap := h', toks := tk }) :
    wpAny (model prog w) A (assign (.Tuple [.Name x₁ p₁, .Name x₂ p₂] k p) env (.ref t)) Q E s := by
  refine unpackN_ F N (items := #[a, b]) (N.isTup ht) hh rfl rfl fun h' F' N' => ?_
  show wpAny _ _ (assignInOrder [assign (.Name x₁ p₁) env, assign (.Name x₂ p₂) env] [a, b]) _ _ _
  refine assignInOrder_cons (wpAny_assign_Name (wpAny_storeName_local h1 F'.ns (fun h₂ hn₂ hs₂ => ?_) hp))
  refine assignInOrder_cons (wpAny_assign_Name (wpAny_storeName_local h2 hn₂ (fun h₃ hn₃ hs₃ => assignInOrder_nil ?_) hp))
  exact h h₃ _ ((F'.set hn₂ hs₂).set hn₃ hs₃) ((N'.set hs₂).set hs₃)
theorem assign_name {x₁ : Str} {p₁ : Pos} {v : Value} {Q : Unit → Shared → Prop} (F : Fr h₀ env.locals s.heap m) (N : News h₀ env.locals s.heap news)
    (h1 : env.kindOf x₁ = some .local) (hp : (env.scope.kind == .class || (env.scope.kind == .module && env.locals != env.globals)) = false)
    (h : ∀ h' tk, Fr h₀ env.locals h' (fun y => if y = x₁ then some v else m y) → News h₀ env.locals h' news → Q () { s with heap := h', toks := tk }) :
    wpAny (model prog w) A (assign (.Name x₁ p₁) env v) Q E s :=
  wpAny_assign_Name (wpAny_storeName_local h1 F.ns (fun h₂ hn₂ hs₂ => h h₂ _ (F.set hn₂ hs₂) (N.set hs₂)) hp)

/-- «for k, v in D.items():» -/
theorem for_items_exec {d : Addr} {od : Obj} {K : Type} [DecidableEq K] {knd : KeyKind prog w K} {elts : List Expr} {x1 : Nat} {pt apos cpos pos : Pos} {o : Expr} {body : List Stmt} {kvs : List (K × Value)} {Q : Flow → Shared → Prop} (J : Nat → (Str → Option Value) → List (Addr × Obj) → Prop)
    (hh : A.handled = none) (F : Fr h₀ env.locals s.heap m) (N : News h₀ env.locals s.heap news)
    (hbase : attributeBase o "items" env (eval o env) = eval o env) (hline : (apos.endLine == cpos.line) = true) (ho : ∀ Q' : Value → Shared → Prop, Q' (.ref d) s → wpAny (model prog w) A (eval o env) Q' E s)
    (hlo : (d == sysModules) = false) (hd : od.IsDictOf knd kvs)
    (hJ : ∀ i m n n' I, (∀ p ∈ news, p.1 ≠ I) → (∀ p ∈ n, isIter p.2 = false → p.1 ≠ I) → J i m n → (∀ p ∈ n, p.1 ≠ I → p ∈ n') → J i m n') (hl : ∀ i m n', J i m n' → (d, od) ∈ n') (j0 : J 0 m news)
    (turn : ∀ i k v key t m₁ n₁ h tk it, kvs[i]? = some (k, v) → knd.is k key = true → (t, ({ cls := .type "tuple", data := .seq #[key, v] } : Obj)) ∈ n₁ → J i m₁ n₁ → isIter it.2 = true → it ∈ n₁ → Fr h₀ env.locals h m₁ → News h₀ env.locals h n₁ →
      wpAny (model prog w) A (assign (.Tuple elts x1 pt) env (.ref t)) (fun _ s₂ => wpAny (model prog w) A (execs body env) (TurnEnd h₀ env.locals s it (J (i + 1)) Q) (notedBy (model prog w) A env fun e s' => cameBackBy (model prog w) A env E e s') s₂)
        (notedBy (model prog w) A env fun e s' => cameBackBy (model prog w) A env E e s') { s with heap := h, toks := tk })
    (done : ∀ m₁ n₁ h tk, J kvs.length m₁ n₁ → Fr h₀ env.locals h m₁ → News h₀ env.locals h n₁ → Q .next { s with heap := h, toks := tk })
    (hs : ∀ x, foldedSetIterable (.Call (.Attribute o "items" apos) [] [] cpos) env x = pure x := by intro _; rfl) :
    wpAny (model prog w) A (exec (.For (.Tuple elts x1 pt) (.Call (.Attribute o "items" apos) [] [] cpos) body [] pos) env) Q E s := by
  have z := N _ (hl _ _ _ j0)
  refine wpAny_For (wpAny_Call_items (knd := knd) (kvs := kvs) hlo ?_ hbase hline ho ?_) hs
  · obtain ⟨es, ep, r⟩ := hd
    exact ⟨od, es, ep, z.1, r⟩
  · exact for_items (s := { s with heap := s.heap.push { cls := .type "dict_items", data := .fields #[.ref d] } }) J hh (F.push _) (N.push F _) (fun i m n n' I h1 h2 h3 h4 => hJ i m n n' I (fun p hp => h1 p (.tail _ hp)) h2 h3 h4) (.head _) hl hd (hJ _ _ _ _ s.heap.objs.size (fun p hp => Nat.ne_of_lt (Heap.lt_size (N p hp).1)) (fun p hp _ => Nat.ne_of_lt (Heap.lt_size (N p hp).1)) j0 fun p hp _ => .tail _ hp) turn done

/-- a loop's word that keeps the frame's map and all the ledger -/
def KeepJ (M : Str → Option Value) (n₀ : List (Addr × Obj)) : Nat → (Str → Option Value) → List (Addr × Obj) → Prop := fun _ m' n' => m' = M ∧ ∀ p ∈ n₀, p ∈ n'
theorem KeepJ.start {M : Str → Option Value} {n₀ : List (Addr × Obj)} {i : Nat} : KeepJ M n₀ i M n₀ := ⟨rfl, fun _ h => h⟩
theorem KeepJ.mono {M : Str → Option Value} {n₀ : List (Addr × Obj)} (i : Nat) (m : Str → Option Value) (n n' : List (Addr × Obj)) (I : Addr) (h1 : ∀ p ∈ n₀, p.1 ≠ I) (_h2 : ∀ p ∈ n, isIter p.2 = false → p.1 ≠ I) (h3 : KeepJ M n₀ i m n) (h4 : ∀ p ∈ n, p.1 ≠ I → p ∈ n') : KeepJ M n₀ i m n' :=
  ⟨h3.1, fun p hp => h4 p (h3.2 p hp) (h1 p hp)⟩

/-- a map with two names laid over it -/
abbrev over2 (x₁ x₂ : Str) (u₁ u₂ : Option Value) (M : Str → Option Value) : Str → Option Value := fun y => if y = x₂ then u₂ else if y = x₁ then u₁ else M y
theorem over2_self (x₁ x₂ : Str) (M : Str → Option Value) : over2 x₁ x₂ (M x₁) (M x₂) M = M := by
  funext y
  unfold over2
  split
  · rename_i h; rw [h]
  · split
    · rename_i h; rw [h]
    · rfl
theorem over2_over {x₁ x₂ : Str} {u₁ u₂ v₁ v₂ : Option Value} {M : Str → Option Value} : over2 x₁ x₂ u₁ u₂ (over2 x₁ x₂ v₁ v₂ M) = over2 x₁ x₂ u₁ u₂ M := by
  funext y
  unfold over2
  split
  · rfl
  · rename_i h
    split
    · rfl
    · rfl
abbrev over1 (x₁ : Str) (u₁ : Option Value) (M : Str → Option Value) : Str → Option Value := fun y => if y = x₁ then u₁ else M y
def Keep2 (x₁ x₂ : Str) (M : Str → Option Value) (n₀ : List (Addr × Obj)) : Nat → (Str → Option Value) → List (Addr × Obj) → Prop := fun _ m' n' => (∃ u₁ u₂, m' = over2 x₁ x₂ u₁ u₂ M) ∧ ∀ p ∈ n₀, p ∈ n'
theorem Keep2.start {x₁ x₂ : Str} {M : Str → Option Value} {n₀ : List (Addr × Obj)} {i : Nat} : Keep2 x₁ x₂ M n₀ i M n₀ := ⟨⟨_, _, (over2_self _ _ _).symm⟩, fun _ h => h⟩
theorem Keep2.mono {x₁ x₂ : Str} {M : Str → Option Value} {n₀ : List (Addr × Obj)} (i : Nat) (m : Str → Option Value) (n n' : List (Addr × Obj)) (I : Addr) (h1 : ∀ p ∈ n₀, p.1 ≠ I) (_h2 : ∀ p ∈ n, isIter p.2 = false → p.1 ≠ I) (h3 : Keep2 x₁ x₂ M n₀ i m n) (h4 : ∀ p ∈ n, p.1 ≠ I → p ∈ n') : Keep2 x₁ x₂ M n₀ i m n' :=
  ⟨h3.1, fun p hp => h4 p (h3.2 p hp) (h1 p hp)⟩
end
end Mine
namespace Mine
/-- every entry but those at l stays -/
def Kept (l : Addr) (n n' : List (Addr × Obj)) : Prop := ∀ p ∈ n, p.1 ≠ l → p ∈ n'
theorem Kept.upd {l : Addr} {o : Obj} {n : List (Addr × Obj)} : Kept l n (upd l o n) := fun _ hp hne => mem_upd hp hne
theorem Kept.sub {l : Addr} {a b n' : List (Addr × Obj)} (k : Kept l b n') (h : ∀ p ∈ a, p ∈ b) : Kept l a n' := fun p hp hne => k p (h p hp) hne
/-- every entry but those at l and at t stays -/
def Kept2 (l t : Addr) (n n' : List (Addr × Obj)) : Prop := ∀ p ∈ n, p.1 ≠ l → p.1 ≠ t → p ∈ n'
theorem Kept2.start {l t : Addr} {n : List (Addr × Obj)} : Kept2 l t n n := fun _ h _ _ => h
theorem Kept2.iter {l t I : Addr} {n₀ n n' : List (Addr × Obj)} (k : Kept2 l t n₀ n) (h0 : ∀ p ∈ n₀, p.1 ≠ I) (h : ∀ p ∈ n, p.1 ≠ I → p ∈ n') : Kept2 l t n₀ n' := fun p hp h1 h2 => h p (k p hp h1 h2) (h0 p hp)
theorem Kept2.tail {l t : Addr} {e : Addr × Obj} {n₀ n : List (Addr × Obj)} (k : Kept2 l t n₀ n) : Kept2 l t n₀ (e :: n) := fun p hp h1 h2 => .tail _ (k p hp h1 h2)
/-- a frame's map that is M outside the names S -/
def Agree (S : List Str) (M m : Str → Option Value) : Prop := ∀ y, y ∉ S → m y = M y
theorem Agree.start {S : List Str} {M : Str → Option Value} : Agree S M M := fun _ _ => rfl
theorem Agree.set {S : List Str} {M m : Str → Option Value} {x : Str} {v : Option Value} (h : Agree S M m) (hx : x ∈ S) : Agree S M (fun y => if y = x then v else m y) := fun y hy => by
  show (if y = x then v else m y) = M y
  have hne : ¬ y = x := fun e => hy (by rw [e]; exact hx)
  rw [if_neg hne]
  exact h y hy
def overL : List Str → (Str → Option Value) → (Str → Option Value) → Str → Option Value
  | [], _, M => M
  | a :: r, u, M => fun y => if y = a then u a else overL r u M y
theorem Agree.over : ∀ {S : List Str} {M m : Str → Option Value}, Agree S M m → m = overL S m M
  | [], M, m, h => by funext y; exact h y (by simp)
  | a :: r, M, m, h => by
    funext y
    show m y = if y = a then m a else overL r m M y
    by_cases e : y = a
    · rw [if_pos e, e]
    · rw [if_neg e]
      by_cases hr : y ∈ r
      · clear h
        induction r with
        | nil => cases hr
        | cons b r ih =>
          show m y = if y = b then m b else overL r m M y
          by_cases e2 : y = b
          · rw [if_pos e2, e2]
          · rw [if_neg e2]
            exact ih ((List.mem_cons.mp hr).resolve_left e2)
      · rw [h y (fun hy => (List.mem_cons.mp hy).elim e hr)]
        clear h
        induction r with
        | nil => rfl
        | cons b r ih =>
          show M y = if y = b then m b else overL r m M y
          have hne : ¬ y = b := fun e => hr (by rw [e]; exact List.mem_cons_self ..)
          rw [if_neg hne]
          exact ih fun hy => hr (.tail _ hy)
theorem iter_ne {h₀ h : Heap} {L l : Addr} {it : Addr × Obj} {o : Obj} {news : List (Addr × Obj)} (N : News h₀ L h news) (hi : isIter it.2 = true) (hm : it ∈ news) (hl : (l, o) ∈ news) (ho : isIter o = false) : it.1 ≠ l := by
  intro e
  have e1 := (N _ hm).1
  rw [e, (N _ hl).1] at e1
  cases e1
  rw [ho] at hi
  cases hi
theorem isIter_list {a : Array Value} {n : Nat} : isIter (listOf a n) = false := by show iterNames.contains "list" = false; decide
theorem handled_deeper {A : Around} {e : Env} (h : A.handled = none) : (A.deeper e).handled = none := h
/-- own append: the list's new entry, all others kept -/
theorem append_K {prog : Program} {w : World} {A : Around} {E : Value → Shared → Prop} {s : Shared} {h₀ : Heap} {L l : Addr} {m : Str → Option Value} {news : List (Addr × Obj)} {its : Array Value} {n : Nat} {x : Value} {Q : Value → Shared → Prop} (F : Fr h₀ L s.heap m) (N : News h₀ L s.heap news) (hl : (l, listOf its n) ∈ news) (hsz : its.size ≤ sizeLine)
    (h : ∀ h' news', Fr h₀ L h' m → News h₀ L h' news' → Kept l news news' → (l, listOf (its.push x) (n + 1)) ∈ news' → Q .none { s with heap := h' }) : wpAny (model prog w) A (call (.builtin "list.append") [.ref l, x]) Q E s :=
  append_L (hsz := hsz) F N hl fun h' F' N' => h h' _ F' N' Kept.upd (mem_upd_self hl)
section
variable {M : Model} {A : Around} {E : Value → Shared → Prop} {s : Shared} {K : Frag} {x C L f : Addr} {h₀ : Heap} {m : Str → Option Value} {ox : Obj} {od : Option Obj} {i v : Value}
theorem delItem_own {Q : Unit → Shared → Prop} (F : Fr h₀ L s.heap m) (X₀ : K.In h₀) (I : InstAt s.heap x ox C od) (hq : noSeq K C = true) (hs : findIn K (.ref C) "__delitem__" = some (some (.ref f))) (hf : isFn K (.ref f) = true)
    (h : wpAny M A (call (.ref f) [.ref x, i]) (fun _ s' => Q () s') E s) : wpAny M A (delItem (.ref x) i) Q E s := by
  have X := X₀.keeps F.keep
  unfold delItem sequenceKey
  refine wpAny_holding (wpAny_bind (wpAny_bind (I.type.here ?_)))
  refine wpAny_bind ((anyM_none X hq).here ?_)
  rw [if_pos (show (!false) = true from rfl)]
  exact wpAny_pure (wpAny_bind (special_fn X I hs (beq_iff_eq.mp hf) (wpAny_mono h (fun _ _ z => wpAny_pure z) fun _ _ z => z)))
end
end Mine
namespace Mine
section
variable {prog : Program} {w : World} {A : Around} {E : Value → Shared → Prop} {s : Shared} {h₀ : Heap} {m : Str → Option Value} {news : List (Addr × Obj)} {env : Env}
theorem PairsN.kept {h : Heap} {L l : Addr} {a : Array Value} {i : Nat} {n n' : List (Addr × Obj)} {its : List Value} {ps : List (Str × Value)} (N : News h₀ L h n) (hl : (l, listOf a i) ∈ n) (P : PairsN n its ps) (K : Kept l n n') : PairsN n' its ps :=
  Paired.imp P fun v q ⟨t', tk, e, hm, hs⟩ => ⟨t', tk, e, K _ hm (news_ne N hm hl (by show Value.type "tuple" ≠ Value.type "list"; decide)), hs⟩
/-- a loop's word over one growing list of pairs -/
def JL (g : Addr) (S : List Str) (M : Str → Option Value) (n₀ : List (Addr × Obj)) (R : Nat → List (Str × Value) → Prop) : Nat → (Str → Option Value) → List (Addr × Obj) → Prop := fun i m' n' =>
  Agree S M m' ∧ Kept g n₀ n' ∧ ∃ ps its k, R i ps ∧ (g, listOf its k) ∈ n' ∧ PairsN n' its.toList ps
theorem JL.mono {g : Addr} {S : List Str} {M : Str → Option Value} {n₀ : List (Addr × Obj)} {R : Nat → List (Str × Value) → Prop} (i : Nat) (m : Str → Option Value) (n n' : List (Addr × Obj)) (I : Addr) (h1 : ∀ p ∈ n₀, p.1 ≠ I) (h2 : ∀ p ∈ n, isIter p.2 = false → p.1 ≠ I) (h3 : JL g S M n₀ R i m n) (h4 : ∀ p ∈ n, p.1 ≠ I → p ∈ n') : JL g S M n₀ R i m n' := by
  obtain ⟨hA, hK, ps, its, k, hR, ht, hP⟩ := h3
  exact ⟨hA, fun p hp hne => h4 p (hK p hp hne) (h1 p hp), ps, its, k, hR, h4 _ ht (h2 _ ht isIter_list), Paired.imp hP fun v q ⟨t', tk, e, hm, hs⟩ => ⟨t', tk, e, h4 _ hm (h2 _ hm (by show iterNames.contains "tuple" = false; decide)), hs⟩⟩
end
end Mine
namespace Mine
section
variable {prog : Program} {w : World} {A : Around} {E : Value → Shared → Prop} {s : Shared} {h₀ : Heap} {L : Addr} {m : Str → Option Value} {news : List (Addr × Obj)} {env : Env}
/-- a cell's address is no other made object's -/
theorem cell_ne {h : Heap} {a c : Addr} {o o' : Obj} {v : Option Value} (N : News h₀ L h news) (h1 : (a, o) ∈ news) (h2 : (c, o') ∈ news) (hd : o'.data = .cell v) (hn : ∀ v, o.data ≠ .cell v) : a ≠ c := by
  rintro rfl
  have e := (N _ h1).1
  rw [(N _ h2).1] at e
  exact hn v (by rw [show o = o' from (Option.some.inj e).symm]; exact hd)
/-- a store into a cell variable -/
theorem store_cell {a : Addr} {cn : Str} {cs : Scope} {ccd : Value} {cl : List (Str × Addr)} {x : Str} {v : Value} {c : Addr} {o : Obj} {v₀ : Option Value} {Q : Unit → Shared → Prop} (F : Fr h₀ L s.heap m) (N : News h₀ L s.heap news) (hc : cl.lookup x = some c) (hm : (c, o) ∈ news) (hd : o.data = .cell v₀)
    (h : ∀ h' o' n', Fr h₀ L h' m → News h₀ L h' n' → Kept c news n' → (c, o') ∈ n' → o'.data = .cell (some v) → Q () { s with heap := h' })
    (hk : cs.kind = .function := by rfl) (hx : (envX cn cs L a ccd cl).kindOf x = some .cell := by rfl) : wpAny (model prog w) A (storeName (envX cn cs L a ccd cl) x v) Q E s := by
  have hmem := N _ hm
  refine wpAny_storeName_cell hk hx hc ⟨o, hmem.1, hd⟩ fun h' hv hs => ?_
  obtain ⟨o', ho', hd'⟩ := hv
  refine h h' o' (upd c o' news) ⟨F.ns.sameBut hs (Ne.symm hmem.2.1), fun b ob e => (hs.2 b (fun q => ?_)).trans (F.keep b ob e), F.above⟩ (news_upd N hm hs ho') Kept.upd (mem_upd_self hm) hd'
  rw [q, hmem.2.2] at e; cases e
theorem walks_bound {I : Addr} {fp wr : List Addr} {n : Nat} {P : Nat → Value → Prop} {St : Nat → Heap → Prop} (W : Walks prog w A I fp wr n P St) : Walks prog w A I fp wr n (fun i v => i < n ∧ P i v) St where
  sub := W.sub
  frame := W.frame
  item := fun i s Q E hi st hQ => W.item i s Q E hi st fun v h' tk hP => hQ v h' tk ⟨hi, hP⟩
  done := W.done
  self := W.self
end
end Mine
namespace Mine
theorem ints_at {cs : List Int} {vs : List Value} (hi : IntsAre vs cs) : ∀ {i : Nat} {c : Int}, cs[i]? = some c → ∃ t, vs[i]? = some (.int c t) := by
  induction hi with
  | nil => intro i c h; simp at h
  | cons y t _ ih =>
    intro i c h
    cases i with
    | zero => cases h; exact ⟨t, rfl⟩
    | succ j => exact ih h
section
variable {prog : Program} {w : World} {A : Around} {s : Shared} {env : Env}
end
end Mine
namespace Mine
section
variable {prog : Program} {w : World} {A : Around} {E : Value → Shared → Prop} {s : Shared} {h₀ : Heap} {l : Addr} {m : Str → Option Value} {news : List (Addr × Obj)} {env : Env}
theorem for_listN {target : Expr} {body : List Stmt} {its : Array Value} {n : Nat} {Q : Flow → Shared → Prop} (J : Nat → (Str → Option Value) → List (Addr × Obj) → Prop)
    (hh : A.handled = none) (F : Fr h₀ env.locals s.heap m) (N : News h₀ env.locals s.heap news)
    (hJ : ∀ i m n n' I, (∀ p ∈ news, p.1 ≠ I) → (∀ p ∈ n, isIter p.2 = false → p.1 ≠ I) → J i m n → (∀ p ∈ n, p.1 ≠ I → p ∈ n') → J i m n') (hl : ∀ i m n', J i m n' → (l, listOf its n) ∈ n') (j0 : J 0 m news)
    (turn : ∀ i v m₁ n₁ h tk it, its[i]? = some v → J i m₁ n₁ → isIter it.2 = true → it ∈ n₁ → (∀ p ∈ news, p.1 ≠ it.1) → Fr h₀ env.locals h m₁ → News h₀ env.locals h n₁ →
      wpAny (model prog w) A (assign target env v) (fun _ s₂ => wpAny (model prog w) A (execs body env) (TurnEnd h₀ env.locals s it (J (i + 1)) Q) (notedBy (model prog w) A env fun e s' => cameBackBy (model prog w) A env E e s') s₂)
        (notedBy (model prog w) A env fun e s' => cameBackBy (model prog w) A env E e s') { s with heap := h, toks := tk })
    (done : ∀ m₁ n₁ h tk, J its.size m₁ n₁ → Fr h₀ env.locals h m₁ → News h₀ env.locals h n₁ → Q .next { s with heap := h, toks := tk }) :
    wpAny (model prog w) A (pyIter (.ref l)) (fun it s₂ => codeAny (model prog w) A (.forLoop target it body [] env) (fun r s' => match r with | .ok f => Q f s' | .error e => cameBackBy (model prog w) A env E e s') s₂) E s := by
  have z := N _ (hl _ _ _ j0)
  have hL : s.heap.IsList l its := ⟨_, z.1, rfl, n, rfl⟩
  have hlt := Heap.lt_size z.1
  refine wpAny_pyIter_list hL ?_
  have up : ∀ b o, s.heap.get? b = some o → (s.heap.push { cls := .type "list_iterator", data := .fields #[.ref l, .int 0 0] }).get? b = some o := fun b o e => Heap.get?_push_of_some _ e
  have hLI : env.locals ≠ s.heap.objs.size := Nat.ne_of_lt F.ns.lt
  have hI0 : h₀.get? s.heap.objs.size = none := next_is_new F
  have nI : ∀ p ∈ news, p.1 ≠ s.heap.objs.size := fun p hp => Nat.ne_of_lt (Heap.lt_size (N p hp).1)
  generalize hI : s.heap.objs.size = I at *
  refine codeAny_forLoop_any
    (fun k s' => ∃ h' tk m' n' i oI, s' = { s with heap := h', toks := tk } ∧ oI.cls = .type "list_iterator" ∧ oI.data = .fields #[.ref l, .int ((i : Nat) : Int) 0] ∧ Fr h₀ env.locals h' m' ∧ News h₀ env.locals h' n' ∧ (I, oI) ∈ n' ∧ J i m' n' ∧ i ≤ its.size ∧
      k = its.size + 1 - i) ?_ (its.size + 1) ⟨_, s.toks, m, (I, { cls := .type "list_iterator", data := .fields #[.ref l, .int 0 0] }) :: news, 0, _, rfl, rfl, rfl, F.push _, ?_, .head _, hJ _ _ _ _ I nI (fun p hp _ => nI p hp) j0 (fun p hp _ => .tail _ hp), Nat.zero_le _, rfl⟩
  · rintro k s' ⟨h, tk, m', n', i, oI, rfl, hc, hd, F', N', hm, hJ', hi, rfl⟩
    have eI := (N' _ hm).1
    have hit : h.IsListIter I l i := ⟨oI, eI, hc, hd⟩
    have hlm := hl _ _ _ hJ'
    have hls : h.IsList l its := ⟨_, (N' _ hlm).1, rfl, n, rfl⟩
    have keepJ : ∀ (p : Addr × Obj), p ∈ n' → isIter p.2 = false → p.1 ≠ I := fun p hp hni e => by
      have e1 := (N' _ hp).1
      rw [e, eI] at e1
      exact isIter_absurd (by rw [← Option.some.inj e1]; exact hc) (by decide) hni
    cases hv : its[i]? with
    | none =>
      have hsz : i = its.size := Nat.le_antisymm hi (by simpa using hv)
      refine wpAny_pyNext_list_end hh hit hls hv fun h₁ he₁ => wpAny_execs_nil ?_
      have k₁ : ∀ b o, b ≠ I → h.get? b = some o → h₁.get? b = some o := fun b o hb e => he₁ b o hb e
      refine done m' (n'.filter fun p => decide (p.1 ≠ I)) h₁ tk (hsz ▸ hJ _ _ _ _ I nI keepJ hJ' fun p hp hni => ?_) (fr_but' F' k₁ hLI hI0) fun p hp => ?_
      · rw [List.mem_filter, decide_eq_true_eq]
        exact ⟨hp, hni⟩
      · rw [List.mem_filter, decide_eq_true_eq] at hp
        exact ⟨k₁ _ _ hp.2 (N' _ hp.1).1, (N' _ hp.1).2⟩
    | some v =>
      have hlt : i < its.size := (Array.getElem?_eq_some_iff.mp hv).1
      refine wpAny_pyNext_list_item hit hls hv fun h₁ hit₁ hs₁ => ?_
      have k₁ : ∀ b o, b ≠ I → h.get? b = some o → h₁.get? b = some o := fun b o hb e => hs₁.extBut b o hb e
      dsimp only
      refine letOwned_list hit₁ ?_
      obtain ⟨o₁, e₁, c₁, d₁⟩ := id hit₁
      have ii : isIter o₁ = true := isIter_of c₁ (by decide)
      refine wpAny_mono (turn i v m' ((I, o₁) :: n'.filter fun p => decide (p.1 ≠ I)) h₁ tk (I, o₁) hv (hJ _ _ _ _ I nI keepJ hJ' fun p hp hni => ?_) ii (.head _) nI (fr_but' F' k₁ hLI hI0) fun p hp => ?_) (fun _ s₂ h₂ => wpAny_mono h₂ (fun f s₃ h₃ => ?_) fun _ _ x => x) fun _ _ x => x
      · refine List.mem_cons_of_mem _ ?_
        rw [List.mem_filter, decide_eq_true_eq]
        exact ⟨hp, hni⟩
      · rcases List.mem_cons.mp hp with rfl | hp
        · exact ⟨e₁, Ne.symm hLI, hI0⟩
        · rw [List.mem_filter, decide_eq_true_eq] at hp
          exact ⟨k₁ _ _ hp.2 (N' _ hp.1).1, (N' _ hp.1).2⟩
      · have go : (∃ h' t' m₂ n₂, s₃ = { s with heap := h', toks := t' } ∧ Fr h₀ env.locals h' m₂ ∧ News h₀ env.locals h' n₂ ∧ (I, o₁) ∈ n₂ ∧ J (i + 1) m₂ n₂) → ∃ m_1, m_1 < its.size + 1 - i ∧ ∃ h' tk m' n' i oI, s₃ = { s with heap := h', toks := tk } ∧ oI.cls = .type "list_iterator" ∧ oI.data = .fields #[.ref l, .int ((i : Nat) : Int) 0] ∧ Fr h₀ env.locals h' m' ∧ News h₀ env.locals h' n' ∧ (I, oI) ∈ n' ∧ J i m' n' ∧ i ≤ its.size ∧
            m_1 = its.size + 1 - i := by
          rintro ⟨h', t', m₂, n₂, rfl, F₂, N₂, hm₂, hJ₂⟩
          exact ⟨its.size + 1 - (i + 1), by omega, h', t', m₂, n₂, i + 1, o₁, rfl, c₁, by rw [d₁], F₂, N₂, hm₂, hJ₂, hlt, rfl⟩
        cases f with
        | ret v => exact h₃
        | brk => exact h₃
        | next => exact go h₃
        | cont => exact go h₃
  · intro p hp
    rcases List.mem_cons.mp hp with rfl | hp
    · exact ⟨hI ▸ Heap.get?_push_size _ rfl, Ne.symm hLI, hI0⟩
    · exact ⟨up _ _ (N _ hp).1, (N _ hp).2⟩
end
end Mine
namespace Mine
section
variable {prog : Program} {w : World} {A : Around} {E : Value → Shared → Prop} {s : Shared} {h₀ : Heap} {L : Addr} {m : Str → Option Value} {news : List (Addr × Obj)} {env : Env}
end
end Mine
namespace Mine
section
variable {prog : Program} {w : World} {A : Around} {E : Value → Shared → Prop} {s : Shared} {h₀ : Heap} {L a b : Addr} {news : List (Addr × Obj)} {v1 v2 : Array Value} {k1 k2 : Nat} {ns ms : List Int} {Q : Value → Shared → Prop}
theorem ne_own (N : News h₀ L s.heap news) (h1 : (a, listOf v1 k1) ∈ news) (h2 : (b, listOf v2 k2) ∈ news) (i1 : IntsAre v1.toList ns) (i2 : IntsAre v2.toList ms) (hu : A.units + 64 < cLine) (he : ns = ms) (h : Q (.bool false) s) : wpAny (model prog w) A (compareOp .NotEq (.ref a) (.ref b)) Q E s := by
  refine ne_intsK (vs := v1.toList) (us := v2.toList) ⟨_, (N _ h1).1, rfl, k1, rfl⟩ i1 ⟨_, (N _ h2).1, rfl, k2, rfl⟩ i2 hu ?_
  rw [he, decide_eq_true rfl]
  exact h
theorem eq_own (N : News h₀ L s.heap news) (h1 : (a, listOf v1 k1) ∈ news) (h2 : (b, listOf v2 k2) ∈ news) (i1 : IntsAre v1.toList ns) (i2 : IntsAre v2.toList ms) (hu : A.units + 64 < cLine) (he : ns = ms) (h : Q (.bool true) s) : wpAny (model prog w) A (compareOp .Eq (.ref a) (.ref b)) Q E s := by
  refine eq_intsK (vs := v1.toList) (us := v2.toList) ⟨_, (N _ h1).1, rfl, k1, rfl⟩ i1 ⟨_, (N _ h2).1, rfl, k2, rfl⟩ i2 hu ?_
  rw [he, decide_eq_true rfl]
  exact h
end
section
variable {prog : Program} {w : World} {A : Around} {E : Value → Shared → Prop} {s : Shared} {h₀ : Heap} {m : Str → Option Value} {news : List (Addr × Obj)} {env : Env}
end
end Mine
namespace Mine
theorem ints_get {vs : List Value} {ns : List Int} (h : IntsAre vs ns) : ∀ (i : Nat) v, vs[i]? = some v → ∃ z t, v = .int z t := by
  induction h with
  | nil => intro i v e; simp at e
  | cons n t _ ih =>
    intro i v e
    cases i with
    | zero => cases e; exact ⟨n, t, rfl⟩
    | succ j => exact ih j v e
theorem ints_of {Fm : Value → Prop} : ∀ {vs ys : List Value}, (∀ y, Fm y → ∃ z t, y = .int z t) → Paired (fun _ y => Fm y) vs ys → ∃ zs, IntsAre ys zs ∧ zs.length = vs.length
  | [], _, _, hp => by cases hp; exact ⟨[], .nil, rfl⟩
  | v :: vs, _, hF, hp => by
    cases hp with
    | @cons _ y _ ys a r =>
      obtain ⟨zs, h1, h2⟩ := ints_of hF r
      obtain ⟨z, t, rfl⟩ := hF _ a
      exact ⟨z :: zs, .cons z t h1, by rw [List.length_cons, List.length_cons, h2]⟩
section
variable {prog : Program} {w : World} {A : Around} {E : Value → Shared → Prop} {s : Shared} {env : Env}
theorem slice_keep {value slice : Expr} {l sl : Addr} {items : Array Value} {vl vu vk : Value} {lo hi st : Option Int} {ops : List Value} {Q : Value → Shared → Prop} (hl : s.heap.IsList l items) (hsl : s.heap.IsSliceOf sl vl vu vk) (pl : IsPart vl lo) (pu : IsPart vu hi) (pk : IsPart vk st) (h0 : st ≠ some 0) (hsz : items.size ≤ sizeLine)
    (h : ∀ D h', (∀ b o, s.heap.get? b = some o → h'.get? b = some o) → h'.get? D = some { cls := .type "list", data := .seq (slicePick items lo hi st) } → Q (.ref D) { s with heap := h' })
    (hs : subscripted slice false (.ref l) (.ref sl) = operate ops (getItem (.ref l) (.ref sl)) := by with_unfolding_all rfl)
    (ht : ∀ r, letTemporaryGo value (.ref l) r = pure () := by intro _; with_unfolding_all rfl) :
    wpAny (model prog w) A (subscriptTail value slice (.ref l) (.ref sl)) Q E s :=
  subscriptTail_ops hl.typeIs list_getitem_lookup (wpAny_getItem_list_slice hl hsl pl pu pk h0 (h _ _ (fun _ _ e => Heap.get?_push_of_some _ e) (Heap.get?_push_size _ rfl)) hsz) hs ht
theorem sum_keep {l : Addr} {vs : List Value} {ns : List Int} {Q : Value → Shared → Prop} (hh : A.handled = none) (hl : s.heap.IsList l vs.toArray) (hi : IntsAre vs ns)
    (h : ∀ h' tk z t', (∀ b o, s.heap.get? b = some o → h'.get? b = some o) → Q (.int z t') { s with heap := h', toks := tk }) : wpAny (model prog w) A (call (.builtin "sum") [.ref l]) Q E s := by
  obtain ⟨xs, hx⟩ := hi.allInts.items
  exact sum_intListG hh (hx ▸ hl) fun h' tk t' hk => h h' tk _ t' hk
/-- a comprehension over a list of whole numbers: remainders -/
theorem rests {its : Array Value} {n : Nat} {ns : List Int} {scope : Scope} {x : Str} {p1 p2 p3 px pos : Pos} {md : Int} {iter : Expr} {Q : Value → Shared → Prop}
    (hh : A.handled = none) (hmd : md ≠ 0) (hk : scope.kind = .function) (hfree : ∀ y ∈ scope.names, y.2 ≠ .free) (hcell : ∀ y ∈ scope.names, y.2 ≠ .cell) (hnames : ∀ y ∈ scope.names, y.2 = .local → scope.names.lookup y.1 = some .local) (hx : scope.names.lookup x = some .local)
    (hk2 : ∀ C, (compEnvC scope [] C env).scope.kind = .function) (hx2 : ∀ C, (compEnvC scope [] C env).kindOf x = some .local) (hdbg : (x == ("__debug__" : Str)) = false)
    (hi : IntsAre its.toList ns) (hsz : its.size ≤ sizeLine)
    (hiter : ∀ Q' : Value → Shared → Prop, (∀ h' tk l, (∀ b o, s.heap.get? b = some o → h'.get? b = some o) → h'.get? l = some (listOf its n) → Q' (.ref l) { s with heap := h', toks := tk }) → wpAny (model prog w) A (eval iter env) Q' E s)
    (hs : ∀ v, foldedSetIterable iter env v = pure v)
    (hQ : ∀ D h' tk ys zs, (∀ b o, s.heap.get? b = some o → h'.get? b = some o) → h'.IsList D ys → IntsAre ys.toList zs → Q (.ref D) { s with heap := h', toks := tk }) :
    wpAny (model prog w) A (eval (.ListComp (.BinOp (.Name x p1) .Mod (.Constant (.int md) 0 p2) p3) [⟨.Name x px, iter, [], 0⟩] scope pos) env) Q E s := by
  refine wpAny_ListComp_free (fun _ => true) (fun _ y => ∃ z t, y = .int z t) (closureFor_none hfree) hcell hk hnames hx (hiter _ fun h' tk l hk1 hl => ?_) hs
  have hL : h'.IsList l its := ⟨_, hl, rfl, n, rfl⟩
  have hlt := Heap.lt_size hl
  refine wpAny_pyIter_list hL ?_
  have up : ∀ b o, h'.get? b = some o → (h'.push { cls := .type "list_iterator", data := .fields #[.ref l, .int 0 0] }).get? b = some o := fun b o e => Heap.get?_push_of_some _ e
  refine ⟨_, _, _, _, _, _, rfl, Walks.list hh h'.objs.size l (Nat.ne_of_lt hlt) its, hsz, ⟨⟨_, Heap.get?_push_size _ rfl, rfl, rfl⟩, hL.push _⟩, ?_, ⟨fun C i v s₃ m₃ E' hC hP hn₃ hm₃ hk₃ _ => ?_, fun C i v s₃ m₃ E' hC hP _ hn₃ hm₃ hk₃ _ => ?_⟩, ?_⟩
  · intro b hb
    show b < (h'.push _).objs.size
    rw [Heap.size_push]
    rcases List.mem_cons.mp hb with rfl | hb
    · exact Nat.lt_succ_self _
    · rw [List.mem_singleton.mp hb]; exact Nat.lt_succ_of_lt hlt
  · exact wpAny_pure ⟨rfl, ⟨_, _, rfl, fun _ _ e => e⟩⟩
  · obtain ⟨z, t, rfl⟩ := ints_get hi i v (by rw [Array.getElem?_toList]; exact hP)
    refine wpAny_BinOp ?_
    refine wpAny_Name (wpAny_loadName_local (hk2 C) (hx2 C) hn₃ hm₃ ?_) hdbg
    refine wpAny_Constant_int ?_
    refine mod_int hmd ?_
    exact ⟨⟨_, _, rfl⟩, ⟨_, _, rfl, fun _ _ e => e⟩⟩
  · intro D h'' tk' ys vs hD hlD hpl hlen hP hF hk3
    obtain ⟨zs, h1, _⟩ := ints_of (fun y hy => hy) hF
    exact hQ D h'' tk' ys zs (fun b o e => hk3 b o (fun hm => by
      rw [List.mem_singleton.mp hm] at e
      exact absurd (Heap.lt_size (hk1 _ _ e)) (Nat.lt_irrefl _)) (up b o (hk1 b o e))) hlD h1
/-- own[k] + sum([n % md for n in numbers[k::st]]) -/
theorem cell_elt {scope scope2 : Scope} {cl : List (Str × Addr)} {p1 p2 p3 p4 p5 p6 p7 p8 p9 q1 q2 q3 q4 q5 q6 q7 : Pos} {co cn O Nn : Addr} {oO oN : Obj} {a b : Array Value} {ns ms : List Int} {H : Heap} {s₃ : Shared} {C : Addr} {i : Int} {t : Tok} {md st : Int} {mg mb : Str → Option Value} {m₃ : Str → Option Value} {E' : Value → Shared → Prop}
    (hh : A.handled = none) (hmd : md ≠ 0) (hst : st ≠ 0)
    (hk : (compEnvC scope cl C env).scope.kind = .function) (hj : (compEnvC scope cl C env).kindOf (Str.ofString "k") = some .local) (h1 : (compEnvC scope cl C env).kindOf (Str.ofString "own") = some .cell) (h2 : (compEnvC scope cl C env).kindOf (Str.ofString "numbers") = some .cell) (h3 : (compEnvC scope cl C env).kindOf (Str.ofString "sum") = some .globalImplicit)
    (l1 : cl.lookup (Str.ofString "own") = some co) (l2 : cl.lookup (Str.ofString "numbers") = some cn)
    (hO : H.get? co = some oO) (dO : oO.data = .cell (some (.ref O))) (hN : H.get? cn = some oN) (dN : oN.data = .cell (some (.ref Nn))) (hLO : H.IsList O a) (hLN : H.IsList Nn b) (hi : IntsAre a.toList ns) (hm : IntsAre b.toList ms) (hbz : b.size ≤ sizeLine)
    (gg : H.Ns (compEnvC scope cl C env).globals mg) (gm : mg (Str.ofString "sum") = none) (gb : H.Ns (compEnvC scope cl C env).builtins mb) (gs : mb (Str.ofString "sum") = some (.builtin "sum"))
    (hk2 : scope2.kind = .function) (hfree : ∀ y ∈ scope2.names, y.2 ≠ .free) (hcell : ∀ y ∈ scope2.names, y.2 ≠ .cell) (hnames : ∀ y ∈ scope2.names, y.2 = .local → scope2.names.lookup y.1 = some .local) (hx : scope2.names.lookup (Str.ofString "n") = some .local)
    (hk3 : ∀ C', (compEnvC scope2 [] C' (compEnvC scope cl C env)).scope.kind = .function) (hx2 : ∀ C', (compEnvC scope2 [] C' (compEnvC scope cl C env)).kindOf (Str.ofString "n") = some .local)
    (hn : s₃.heap.Ns C m₃) (hmk : m₃ (Str.ofString "k") = some (.int i t)) (h0 : 0 ≤ i) (hN2 : i < ns.length) (hfit : ns.length < 1000) (keep : ∀ b o, H.get? b = some o → s₃.heap.get? b = some o) :
    wpAny (model prog w) A (eval (.BinOp (.Subscript (.Name (Str.ofString "own") p1) (.Name (Str.ofString "k") p2) p3) .Add (.Call (.Name (Str.ofString "sum") p4) [.ListComp (.BinOp (.Name (Str.ofString "n") p5) .Mod (.Constant (.int md) 0 p6) p7) [⟨.Name (Str.ofString "n") p8, .Subscript (.Name (Str.ofString "numbers") p9) (.Slice (some (.Name (Str.ofString "k") q1)) none (some (.Constant (.int st) 0 q2)) q3) q4, [], 0⟩] scope2 q5] [] q6) q7) (compEnvC scope cl C env))
      (fun y s₄ => (∃ z t', y = .int z t') ∧ Keeps s₃ s₄) E' s₃ := by
  obtain ⟨z, hz⟩ : ∃ z, ns[i.toNat]? = some z := ⟨_, List.getElem?_eq_getElem (by omega)⟩
  obtain ⟨tz, ez⟩ := ints_at hi hz
  have eO := keep _ _ hO
  have eN := keep _ _ hN
  have kL : ∀ {X : Addr} {c : Array Value}, H.IsList X c → s₃.heap.IsList X c := fun ⟨o, e, r⟩ => ⟨o, keep _ _ e, r⟩
  have hLO' : s₃.heap.IsList O a.toList.toArray := kL hLO
  refine wpAny_BinOp ?_
  refine Subscript_ ?_
  refine wpAny_Name (wpAny_loadName_cell hk h1 l1 ⟨oO, eO, dO⟩ ?_)
  refine wpAny_Name (wpAny_loadName_local hk hj hn hmk ?_)
  refine item_listL hLO' h0 (by omega) ez ?_
  refine Call_ ?_
  refine Calls.Name_function_global hk h3 (Calls.loadGlobal_builtin (gg.keeps keep) gm (gb.keeps keep) gs ?_)
  refine PyProof.Rows.callWith_builtin1 ?_
  refine spliced_more ?_
  refine rests (its := slicePick b (some i) none (some st)) (n := 0) (ns := pickNums ms (some i) none (some st)) hh hmd hk2 hfree hcell hnames hx hk3 hx2 (by decide) (by have := hm.pick (some i) none (some st); simpa using this) (Nat.le_trans (slicePick_size_le b _ _ _) hbz) ?_ ?_ ?_
  · intro Q' hQ'
    refine Subscript_ ?_
    refine wpAny_Name (wpAny_loadName_cell hk h2 l2 ⟨oN, eN, dN⟩ ?_)
    refine wpAny_Slice ?_
    refine evalPart_some_step ?_
    refine wpAny_Name (wpAny_loadName_local hk hj hn hmk ?_)
    refine evalPart_none_step ?_
    refine evalPart_some_step ?_
    refine wpAny_Constant_int ?_
    refine slice_keep (lo := some i) (hi := none) (st := some st) ((kL hLN).push _) (Heap.IsSliceOf.new ..) (.int ..) .none (.int ..) (by simpa using hst) hbz fun D h' kp hD => ?_
    exact hQ' h' _ D (fun b o e => kp b o (Heap.get?_push_of_some _ e)) hD
  · intro _; with_unfolding_all rfl
  · intro D h' tk ys zs kp hD hI
    refine spliced_none ?_
    refine sum_keep (vs := ys.toList) hh hD hI fun h'' tk' z' t' kp2 => ?_
    refine PyProof.Rows.add_int ?_
    exact ⟨⟨_, _, rfl⟩, ⟨_, _, rfl, fun b o e => kp2 b o (kp b o e)⟩⟩
end
end Mine
namespace Mine
theorem list_ne {h₀ h : Heap} {L a b : Addr} {x y : Array Value} {i j : Nat} {n : List (Addr × Obj)} (N : News h₀ L h n) (h1 : (a, listOf x i) ∈ n) (h2 : (b, listOf y j) ∈ n) (hs : x.size ≠ y.size) : a ≠ b := by
  rintro rfl
  have e := (N _ h1).1
  rw [(N _ h2).1] at e
  have e2 := congrArg Obj.data (Option.some.inj e)
  injection e2 with e3 e4
  exact hs (by rw [e3])
section
variable {prog : Program} {w : World} {A : Around} {E : Value → Shared → Prop} {s : Shared} {h₀ : Heap} {m : Str → Option Value} {news : List (Addr × Obj)} {env : Env}
/-- cells = [own[k] + sum([n % md for n in numbers[k::st]]) for k in range(N)] -/
theorem Assign_cells {scope scope2 : Scope} {cl : List (Str × Addr)} {p1 p2 p3 p4 p5 p6 p7 p8 p9 q1 q2 q3 q4 q5 q6 q7 px py pos spos : Pos} {iter : Expr} {y : Str} {co cn O Nn : Addr} {oO oN : Obj} {a b : Array Value} {ka kb : Nat} {ns ms : List Int} {md st : Int} {mg mb : Str → Option Value} {N : Nat} {Q : Flow → Shared → Prop}
    {L : Addr} (hL : env.locals = L) (hh : A.handled = none) (_F : Fr h₀ L s.heap m) (_N : News h₀ L s.heap news) (hmd : md ≠ 0) (hst : st ≠ 0)
    (hO : (co, oO) ∈ news) (dO : oO.data = .cell (some (.ref O))) (hN : (cn, oN) ∈ news) (dN : oN.data = .cell (some (.ref Nn))) (hLO : (O, listOf a ka) ∈ news) (hLN : (Nn, listOf b kb) ∈ news) (hi : IntsAre a.toList ns) (hm : IntsAre b.toList ms) (hbz : b.size ≤ sizeLine) (hnl : ns.length = N) (hfit : N < 1000)
    (gg : h₀.Ns env.globals mg) (gm : mg (Str.ofString "sum") = none) (gb : h₀.Ns env.builtins mb) (gs : mb (Str.ofString "sum") = some (.builtin "sum"))
    (hsw : swapsWith (.ListComp (.BinOp (.Subscript (.Name (Str.ofString "own") p1) (.Name (Str.ofString "k") p2) p3) .Add (.Call (.Name (Str.ofString "sum") p4) [.ListComp (.BinOp (.Name (Str.ofString "n") p5) .Mod (.Constant (.int md) 0 p6) p7) [⟨.Name (Str.ofString "n") p8, .Subscript (.Name (Str.ofString "numbers") p9) (.Slice (some (.Name (Str.ofString "k") q1)) none (some (.Constant (.int st) 0 q2)) q3) q4, [], 0⟩] scope2 q5] [] q6) q7)
      [⟨.Name (Str.ofString "k") px, iter, [], 0⟩] scope pos) (some (.Name y py)) spos.line env = pure true)
    (hclos : closureFor scope env = pure cl) (hcell : ∀ z ∈ scope.names, z.2 ≠ .cell) (hkind : scope.kind = .function)
    (hnames : ∀ z ∈ scope.names, z.2 = .local → scope.names.lookup z.1 = some .local) (hx : scope.names.lookup (Str.ofString "k") = some .local)
    (hy : env.kindOf y = some .local) (hp : (env.scope.kind == .class || (env.scope.kind == .module && env.locals != env.globals)) = false)
    (hk : ∀ C, (compEnvC scope cl C env).scope.kind = .function) (hj : ∀ C, (compEnvC scope cl C env).kindOf (Str.ofString "k") = some .local) (h1 : ∀ C, (compEnvC scope cl C env).kindOf (Str.ofString "own") = some .cell) (h2 : ∀ C, (compEnvC scope cl C env).kindOf (Str.ofString "numbers") = some .cell) (h3 : ∀ C, (compEnvC scope cl C env).kindOf (Str.ofString "sum") = some .globalImplicit)
    (l1 : cl.lookup (Str.ofString "own") = some co) (l2 : cl.lookup (Str.ofString "numbers") = some cn)
    (hk2 : scope2.kind = .function) (hfree : ∀ y ∈ scope2.names, y.2 ≠ .free) (hcell2 : ∀ y ∈ scope2.names, y.2 ≠ .cell) (hnames2 : ∀ y ∈ scope2.names, y.2 = .local → scope2.names.lookup y.1 = some .local) (hx2 : scope2.names.lookup (Str.ofString "n") = some .local)
    (hk3 : ∀ C C', (compEnvC scope2 [] C' (compEnvC scope cl C env)).scope.kind = .function) (hx3 : ∀ C C', (compEnvC scope2 [] C' (compEnvC scope cl C env)).kindOf (Str.ofString "n") = some .local)
    (hs : ∀ x, foldedSetIterable iter env x = pure x)
    (hiter : ∀ Q' : Value → Shared → Prop, (∀ h' tk r tu tv tw, Fr h₀ L h' m → News h₀ L h' news → IsRange h' r 0 (N : Nat) 1 tu tv tw → Q' (.ref r) { s with heap := h', toks := tk }) → wpAny (model prog w) A (eval iter env) Q' E s)
    (hQ : ∀ D h' tk ys k zs, Fr h₀ L h' (fun z => if z = y then some (.ref D) else m z) → News h₀ L h' ((D, listOf ys k) :: news) → IntsAre ys.toList zs → zs.length = N → (∀ q ∈ news, q.1 ≠ D) → Q .next { s with heap := h', toks := tk }) :
    wpAny (model prog w) A (exec (.Assign [.Name y py] (.ListComp (.BinOp (.Subscript (.Name (Str.ofString "own") p1) (.Name (Str.ofString "k") p2) p3) .Add (.Call (.Name (Str.ofString "sum") p4) [.ListComp (.BinOp (.Name (Str.ofString "n") p5) .Mod (.Constant (.int md) 0 p6) p7) [⟨.Name (Str.ofString "n") p8, .Subscript (.Name (Str.ofString "numbers") p9) (.Slice (some (.Name (Str.ofString "k") q1)) none (some (.Constant (.int st) 0 q2)) q3) q4, [], 0⟩] scope2 q5] [] q6) q7)
      [⟨.Name (Str.ofString "k") px, iter, [], 0⟩] scope pos) spos) env) Q E s := by
  subst hL
  refine wpAny_Assign_ListComp_free (fun _ => true) (fun _ y => ∃ z t, y = .int z t) hsw hclos hcell hkind hnames hx hy hp (hiter _ fun h' tk r tu tv tw F' N' hr => ?_) hs
  have hsm : Builtin.Range.small 0 (N : Nat) 1 = true := small_one (by omega) (by omega) (by omega) (by omega)
  have hn : Builtin.Range.rangeSize 0 (N : Nat) 1 = ((N : Nat) : Int) := rangeSize_nat _ _
  refine wpAny_pyIter_range hr hsm ?_
  rw [hn]
  dsimp only
  have up : ∀ b' o, h'.get? b' = some o → (h'.push { cls := .type "range_iterator", data := .fields #[rawInt 0, rawInt ((N : Nat) : Int), rawInt 1] }).get? b' = some o := fun b o e => Heap.get?_push_of_some _ e
  have hlt : ∀ b o, h'.get? b = some o → b ∉ [h'.objs.size] := fun b o e hm => by
    rw [List.mem_singleton.mp hm] at e
    exact absurd (Heap.lt_size e) (Nat.lt_irrefl _)
  have hLI : env.locals ∉ [h'.objs.size] := fun hm => by
    have := F'.ns.lt
    rw [List.mem_singleton.mp hm] at this
    exact Nat.lt_irrefl _ this
  refine ⟨_, _, _, _, _, _, m, rfl, walks_bound (Walks.range hh h'.objs.size 0 1 N), Nat.le_trans (Nat.le_of_lt hfit) (by decide), ?_, ?_, hLI, (F'.push _).ns, ⟨fun C i v s₃ m₃ E' hC hP hn₃ hm₃ hk₃ _ => ?_, fun C i v s₃ m₃ E' hC hP _ hn₃ hm₃ hk₃ _ => ?_⟩, ?_⟩
  · have e1 : (0 : Int) + ((0 : Nat) : Int) * 1 = 0 := by decide
    have e2 : (N : Int) - ((0 : Nat) : Int) = N := Int.sub_zero _
    show IsRangeIter _ _ ((0 : Int) + ((0 : Nat) : Int) * 1) ((N : Int) - ((0 : Nat) : Int)) 1
    rw [e1, e2]
    exact Heap.get?_push_size _ rfl
  · intro b hb
    rw [List.mem_singleton.mp hb]
    show _ < (h'.push _).objs.size
    rw [Heap.size_push]; exact Nat.lt_succ_self _
  · exact wpAny_pure ⟨rfl, ⟨_, _, rfl, fun _ _ e => e⟩⟩
  · obtain ⟨hi2, t, rfl⟩ := hP
    have keep : ∀ b o, h'.get? b = some o → s₃.heap.get? b = some o := fun b o e => hk₃ b o (hlt b o e) (up b o e)
    exact cell_elt hh hmd hst (hk C) (hj C) (h1 C) (h2 C) (h3 C) l1 l2 (N' _ hO).1 dO (N' _ hN).1 dN ⟨_, (N' _ hLO).1, rfl, ka, rfl⟩ ⟨_, (N' _ hLN).1, rfl, kb, rfl⟩ hi hm hbz (gg.keeps F'.keep) gm (gb.keeps F'.keep) gs hk2 hfree hcell2 hnames2 hx2 (hk3 C) (hx3 C) hn₃ hm₃ (by omega) (by omega) (by omega) keep
  · intro D h'' tk' ys vs hD hlD hpl hlen hP hF hns hk3
    rw [List.filter_eq_self.mpr (fun _ _ => rfl)] at hF
    obtain ⟨zs, g1, g2⟩ := ints_of (fun y hy => hy) hF
    have hD' : h'.get? D = none := by
      cases e : h'.get? D with
      | none => rfl
      | some o => rw [up D o e] at hD; cases hD
    have keep : ∀ b o, b ≠ env.locals → h'.get? b = some o → h''.get? b = some o := fun b o hb e => hk3 b o hb (hlt b o e) (up b o e)
    have hL0 : ∀ b o, h₀.get? b = some o → b ≠ env.locals := fun b o e eq => by
      have := Heap.lt_size e
      rw [eq] at this
      exact absurd (Nat.lt_of_lt_of_le this F'.above) (Nat.lt_irrefl _)
    obtain ⟨k, hpl⟩ := hpl
    refine hQ D h'' tk' ys k zs ⟨hns, fun b o e => keep b o (hL0 b o e) (F'.keep b o e), F'.above⟩ (fun q hq => ?_) g1 (g2.trans hlen) (fun q hq e => ?_)
    · rcases List.mem_cons.mp hq with rfl | hq
      · refine ⟨hpl, ?_, ?_⟩
        · rintro rfl
          obtain ⟨oL, _, _, e, _⟩ := F'.ns
          rw [hD'] at e; cases e
        · cases e : h₀.get? D with
          | none => rfl
          | some o => rw [F'.keep _ _ e] at hD'; cases hD'
      · exact ⟨keep _ _ (N' q hq).2.1 (N' q hq).1, (N' q hq).2⟩
    · have := (N' q hq).1
      rw [e, hD'] at this; cases this
end
end Mine
namespace Mine
open PySem PySem.W PyProof.Rows PySem.Builtin PySem.Builtin.Str
section
variable {prog : Program} {w : World} {A : Around} {E : Value → Shared → Prop} {s : Shared}
theorem field_man {id : String} {a : Array Value} {byName : PySem.Str → Sem Value} {v : Value} {Q : Value × Numbering → Shared → Prop} (ha : a[0]? = some v)
    (h : Q (v, .manual) s) : wpAny (model prog w) A (fieldObject id (some a) byName [48] .unset) Q E s := by
  unfold fieldObject
  refine wpAny_bind (wpAny_of_eq (a := some 0) rfl ?_)
  refine wpAny_bind (wpAny_of_eq (a := (some 0, .manual)) rfl ?_)
  simp only [ha, pure_bind]
  rw [KPc.range_list]
  exact wpAny_bind (wpAny_pure (wpAny_pure h))
theorem got_format {y : PySem.Str} {t u : Tok} {Q : Value → Shared → Prop} (hy : y.length ≤ 100000)
    (h : ∀ t' k, Q (.str ((PySem.Str.ofString "Header names/values must be of type str (got " ++ y) ++ PySem.Str.ofString ")") t') { s with toks := k }) :
    wpAny (model prog w) A (call (.builtin "str.format") [.str (PySem.Str.ofString "Header names/values must be of type str (got {0})") t, .str y u]) Q E s := by
  refine KFm.call_k (by kfm_eq) (by kfm_args) ?_ h
  apply KPc.meets_of
  intro _ _ _ _ _ _ _
  unfold Builtin.«str.format»
  refine wpAny_bind (wpAny_of_eq (a := (_, _, _)) rfl ?_)
  refine wpAny_bind ?_
  unfold Builtin.Str.buildString
  refine wpAny_bind ?_
  rw [KPc.range_list]
  refine KFm.start ?_
  intro _ _
  refine KPc.turn ?_; kpc_if
  kpc_check
  refine wpAny_bind (field_man (by rfl) ?_)
  refine wpAny_bind (wpAny_holding (wpAny_of_eq (a := _) rfl ?_))
  kpc_if
  refine wpAny_bind (wpAny_pure ?_)
  kfm_val
  refine wpAny_bind (wpAny_of_eq (a := some _) rfl ?_)
  refine wpAny_pure ?_
  refine KFm.after_field (by kpc_g) (by kpc_text) (by kpc_obj) (by exact hy) (by kpc_obj) (by kfm_cat2) (by kfm_rest) ?_
  intro _ _
  kfm_turns
end
end Mine
namespace Mine
section
variable {M : Model} {A : Around} {E : Value → Shared → Prop} {s : Shared}
theorem setFlight_held {base : Heap} {l : List Env} {e L : Addr} {cls a0 : Value} {Q : Unit → Shared → Prop} (R : Heap.HeldW base l e cls a0 L s.heap)
    (h : ∀ h', Heap.HeldW base l e cls a0 L h' → s.heap.UpToSlots h' → Q () { s with heap := h' }) : wpAny M A (setFlight (.ref e) (some L)) Q E s := by
  obtain ⟨hkb, hen, hl, oe, vs, T, oT, ts, he, hcls, hd, h1, hnT, hTe, hT, hdT, h3⟩ := R
  have hsz3 : 3 < ts.size := (Array.getElem?_eq_some_iff.mp h3).1
  have ne : ∀ b o, s.heap.get? b = some o → (∀ vs, o.data ≠ .fields vs) → b ≠ T := fun b o hb hnf q => by
    subst q
    rw [hT] at hb
    cases hb
    exact hnf ts hdT
  unfold setFlight
  refine wpAny_bind (wpAny_field he hd h1 ?_)
  rw [if_pos (show (Value.ref T != Value.none) = true from by simp)]
  refine wpAny_setField hT hdT hsz3 (h _ ⟨fun b o hbo => ?_, hen, hl.of_keeps fun b o hb hnf => ⟨o, ?_, rfl⟩, ?_⟩ fun b o hb hnf => ⟨o.slots, ?_⟩)
  · rw [Heap.get?_update_other _ _ (fun q => by rw [← q, hnT] at hbo; cases hbo)]
    exact hkb b o hbo
  · rw [Heap.get?_update_other _ _ (Ne.symm (ne b o hb hnf))]
    exact hb
  · exact ⟨oe, vs, T, _, _, (Heap.get?_update_other _ _ hTe).trans he, hcls, hd, h1, hnT, hTe, Heap.get?_update_self _ hT (Obj.isFreed_of_fields (Obj.data_mapFields hdT _)), Obj.data_mapFields hdT _, by simp [hsz3]⟩
  · rw [Heap.get?_update_other _ _ (Ne.symm (ne b o hb hnf))]
    exact hb
/-- a raise within a loop's turn: noted, and back in the frame -/
theorem noted_back {base G : Heap} {name : Str} {scope : Scope} {L a e t : Addr} {cd cls : Value} {outer : List Env} {vs : List Value} {news : List (Addr × Obj)} (hfr : A.frames = some (envOf name scope L a cd :: outer)) (R : RaisedS base G (envOf name scope L a cd :: outer) e cls t vs news s.heap) (hsm : G.UpToSlots s.heap)
    (k : ∀ h', RaisedH base G (envOf name scope L a cd :: outer) L e cls t vs news h' → G.UpToSlots h' → E (.ref e) { s with heap := h' }) :
    notedBy M A (envOf name scope L a cd) (fun e s' => cameBackBy M A (envOf name scope L a cd) E e s') (.ref e) s := by
  obtain ⟨⟨B, hB, hBG, hl, hfl, hnew⟩, htup⟩ := R
  unfold notedBy
  refine wpAny_looks_onW hfr rfl hfl fun h₄ hheld hs4 => ?_
  obtain ⟨_, _, _, oe, ws, T, oT, ts, he, hc, hd, h1, _⟩ := id hheld
  unfold cameBackBy
  refine wpAny_bind (wpAny_field he hd h1 ?_)
  rw [if_neg (show ¬ ((Value.ref T == Value.none) = true) from by simp)]
  first
    | exact wpAny_bind (wpAny_pure (setFlight_held (s := { s with heap := h₄ }) hheld fun h' hh hs => k h' ⟨⟨B, hB, hBG, hl, hh, hnew⟩, (htup.of_slots hs4).of_slots hs⟩ ((hsm.trans hs4).trans hs)))
    | exact setFlight_held (s := { s with heap := h₄ }) hheld fun h' hh hs => k h' ⟨⟨B, hB, hBG, hl, hh, hnew⟩, (htup.of_slots hs4).of_slots hs⟩ ((hsm.trans hs4).trans hs)
end
end Mine
namespace Mine
open PySem PySem.W PyProof.Rows PySem.Calls
section
variable {prog : Program} {w : World} {A₀ A : Around} {s : Shared} {base h₀ : Heap} {env : Env} {L : Addr} {m : Str → Option Value} {news : List (Addr × Obj)} {K : Frag} {p : Program} {loose : List Str} {mean : ExcName → Option Value} {mg mb : Str → Option Value}
    {R : Result → Shared → Prop} {name qual : Str} {params : Arguments} {body : List Stmt} {scope : Scope} {dV kV doc pm cdv ct oc : Value} {an od : Option Addr} {osl : Array (Option Value)} {f : Addr} {args : Args} {binds : List (Str × Value)}
/-- behind a caught raise the caller's frame and ledger stand again -/
theorem turn_back {g g' h : Heap} {L' : Addr} {m' : Str → Option Value} {news' : List (Addr × Obj)} (st : h₀.StaysIn g) (FG : Fr h₀ L g m) (T : KtsTurn [L] g g') (F' : Fr g' L' h m') (N' : News g' L' h news') : Fr h₀ L h m ∧ News h₀ L h news' := by
  have nL₀ : h₀.get? L = none := kts_self FG
  obtain ⟨oL, es, ep, hL, hLd, hLk, hLf⟩ := FG.ns
  obtain ⟨sl, hs⟩ := T.frame L oL hL (List.mem_singleton.mpr rfl)
  refine ⟨⟨⟨_, es, ep, F'.keep _ _ hs, hLd, hLk, hLf⟩, fun b o e => F'.keep b o (T.other b o (st b o e) fun q => ?_), FG.above⟩, fun q hq => ⟨(N' q hq).1, fun e => ?_, ?_⟩⟩
  · rw [List.mem_singleton.mp q, nL₀] at e
    cases e
  · have := (N' q hq).2.2
    rw [e, hs] at this
    cases this
  · cases e : h₀.get? q.1 with
    | none => rfl
    | some o =>
      obtain ⟨sl', hs'⟩ := T.up (st _ _ e)
      have := (N' q hq).2.2
      rw [hs'] at this
      cases this
def LeaveT (es : List Env) (h₀ : Heap) (L : Addr) (m : Str → Option Value) (g : Heap) (R : Result → Shared → Prop) (v : Value) (s' : Shared) : Prop := ∃ g' L' m' news', KtsTurn (es.filterMap (·.frame)) g g' ∧ Fr g' L' s'.heap m' ∧ News g' L' s'.heap news' ∧ (Fr h₀ L s'.heap m → News h₀ L s'.heap news' → R (.ok (.ret v)) s')
theorem leaveT_ {es : List Env} {g g' : Heap} {L' : Addr} {m' : Str → Option Value} {news' : List (Addr × Obj)} {v : Value} {s' : Shared} (T : KtsTurn (es.filterMap (·.frame)) g g') (F : Fr g' L' s'.heap m') (N : News g' L' s'.heap news') (k : Fr h₀ L s'.heap m → News h₀ L s'.heap news' → R (.ok (.ret v)) s') : LeaveT es h₀ L m g R v s' := ⟨g', L', m', news', T, F, N, k⟩
theorem code_try (B : Below A₀ base [] h₀) (F : Fr h₀ L s.heap m) (X₀ : K.In h₀) (N : News h₀ L s.heap news) (T : Top p loose mean mg mb h₀) (hA : A.frames = some [env]) (hf : env.frame = some L) (hke : env.scope.kind = .function)
    (ho : K.lookup f = some ⟨oc, od, .func (fnOf name qual params body scope dV kV doc pm an cdv ct), osl⟩) (hcd : codeIn K cdv qual = true) (hroom : A.depth < recursionLimit)
    (hbind : BindsTo s (fnOf name qual params body scope dV kV doc pm an cdv ct) args binds) (hloc : ∀ y ∈ binds, scope.names.lookup y.1 = some .local)
    (h : ∀ g L' h₁ tk, Fr h₀ L g m → Fr g L' h₁ (fun y => binds.reverse.lookup y) → News g L' h₁ news → Below A base [env] g → K.In g → Top p loose mean mg mb g → KtsDicts ([env].filterMap (·.frame)) g → KtsTurn ([env].filterMap (·.frame)) g g →
      wpAny (model prog w) (A.deeper (envOf qual scope L' f cdv)) (execs body (envOf qual scope L' f cdv))
        (fun fl s' => LeaveT [env] h₀ L m g R (match fl with | .ret v => v | _ => .none) s')
        (fun e s' => wpAny (model prog w) (A.deeper (envOf qual scope L' f cdv)) (leaving (envOf qual scope L' f cdv) e) (fun _ s'' => R (.error e) s'') (fun e' s'' => R (.error e') s'') s')
        { s with heap := h₁, toks := tk })
    (hco : scope.isCoroutine = false) (hgen : scope.isGenerator = false) (hk : scope.kind = .function)
    (hcell : ∀ x ∈ scope.names, x.2 ≠ .cell) : codeAny (model prog w) A (.call (.ref f) args) R s := by
  have X := X₀.keeps F.keep
  have ef : [env].filterMap (·.frame) = [L] := by simp [hf]
  obtain ⟨FG, BG, st, lv⟩ := groundX (R := R) B F N hA hf hke
  refine codeAny_call_def (fd := fnOf name qual params body scope dV kV doc pm an cdv ct) (body := body) (binds := binds) hroom (X _ _ ho) rfl (T.nolimit.keeps F.keep) (codeRec_of X hcd) rfl hbind hcell hloc (fun h₁ hns hk₁ => ?_) hco hgen hk
  have FG' : Fr (hideAll s.heap (news.map fun q : Addr × Obj => q.1)) s.heap.objs.size h₁ (fun y => binds.reverse.lookup y) := ⟨hns, fun b o e => hk₁ b o (of_hideAll _ e), Nat.le_of_eq (hideAll_size _ _)⟩
  refine wpAny_mono (h _ s.heap.objs.size h₁ _ FG FG' (fun q hq => ⟨hk₁ _ _ (N q hq).1, Nat.ne_of_lt (Heap.lt_size (N q hq).1), hideAll_none _ (List.mem_map_of_mem hq)⟩) BG (X₀.keeps st) (T.keeps st) (fun b hb => ?_) KtsTurn.refl) (fun fl s' hl => ?_) fun _ _ y => y
  · rw [ef] at hb
    rw [List.mem_singleton.mp hb]
    obtain ⟨oL, es, ep, a, b, _⟩ := FG.ns
    exact ⟨oL, es, ep, a, b⟩
  · obtain ⟨g', L', m', news', T', F', N', k⟩ := hl
    rw [ef] at T'
    obtain ⟨F1, N1⟩ := turn_back st FG T' F' N'
    exact k F1 N1
end
end Mine
namespace Mine
section
variable {prog : Program} {w : World} {A : Around} {E : Value → Shared → Prop} {s : Shared} {h₀ : Heap} {L l : Addr} {m : Str → Option Value} {news : List (Addr × Obj)}
/-- own pop of the last -/
theorem pop_L {its : Array Value} {n : Nat} {y : Value} {Q : Value → Shared → Prop} (F : Fr h₀ L s.heap m) (N : News h₀ L s.heap news) (hl : (l, listOf its n) ∈ news) (hy : its[its.size - 1]? = some y) (hsz : its.size ≤ sizeLine)
    (h : ∀ h' n', Fr h₀ L h' m → News h₀ L h' (upd l (listOf its.pop n') news) → Q y { s with heap := h' }) : wpAny (model prog w) A (call (.builtin "list.pop") [.ref l]) Q E s := by
  have z := N _ hl
  exact Copied.pop_at (hsz := hsz) z.1 hy fun h' hs ho' => h h' _ (F.change hs z.2.1 z.2.2) (news_upd N hl hs ho')
/-- units at a handler of the first def -/
theorem units_deed {env : Env} {x : Option Value} (hu : A.units + 64 < cLine) : ((A.deeper env).mark x).units + 2 < cLine := by
  show A.units + 3 + 2 < cLine
  omega
end
end Mine
namespace Mine
section
variable {prog : Program} {w : World} {A : Around} {E : Value → Shared → Prop} {s : Shared} {h₀ : Heap} {L : Addr} {m : Str → Option Value} {news : List (Addr × Obj)} {env : Env}
/-- what an element of a comprehension must do, in terms of the ledger -/
def ElemOk (prog : Program) (w : World) (A : Around) (env : Env) (scope : Scope) (cl : List (Str × Addr)) (x : Str) (elt : Expr) (h₀ : Heap) (L : Addr) (m : Str → Option Value) (s : Shared) (news : List (Addr × Obj)) (J : Nat → List Value → List (Addr × Obj) → Prop) (P : Nat → Value → Prop) (n : Nat) : Prop :=
  ∀ C i v zs n₁ n₂ h tk m₃ E', i < n → P i v → J i zs n₁ → zs.length = i → (∀ q ∈ news, q ∈ n₁) → (∀ q ∈ n₁, q ∈ n₂) → Fr h₀ L h m → News h₀ L h n₂ → h.Ns C m₃ → m₃ x = some v → (∃ oC, (C, oC) ∈ n₂) →
   wpAny (model prog w) A (eval elt (compEnvC scope cl C env)) (fun y s₄ => ∃ h' tk' nw, s₄ = { s with heap := h', toks := tk' } ∧ Fr h₀ L h' m ∧ News h₀ L h' (nw ++ n₂) ∧ (∀ q ∈ nw, ∀ e ∈ n₂, e.1 ≠ q.1) ∧ J (i + 1) (zs ++ [y]) (nw ++ n₁)) E' { s with heap := h, toks := tk }
theorem comp_loop_own {elt iter : Expr} {x : Str} {px : Pos} {scope scope' : Scope} {cl : List (Str × Addr)} {pos : Pos} {I C D : Addr} {fp wr : List Addr} {n : Nat} {P : Nat → Value → Prop} {St : Nat → Heap → Prop} {R : Result → Shared → Prop} {mC : Str → Option Value} {h : Heap} {tk : Nat}
    (J : Nat → List Value → List (Addr × Obj) → Prop) (W : Walks prog w A I fp wr n P St) (hI : ∀ i h, St i h → ∃ o, h.get? I = some o) (hfp : ∀ b ∈ fp, b = I ∨ ∃ o, (b, o) ∈ news) (hwr : ∀ b ∈ wr, b = I)
    (hx : (compEnvC scope' cl C env).kindOf x = some .local) (hp : ((compEnvC scope' cl C env).scope.kind == .class || ((compEnvC scope' cl C env).scope.kind == .module && (compEnvC scope' cl C env).locals != (compEnvC scope' cl C env).globals)) = false)
    (hDC : D ≠ C) (hDI : D ≠ I) (hCI : C ≠ I) (nI : ∀ q ∈ news, q.1 ≠ I ∧ q.1 ≠ C ∧ q.1 ≠ D) (fI : I ≠ L ∧ h₀.get? I = none) (fC : C ≠ L ∧ h₀.get? C = none) (fD : D ≠ L ∧ h₀.get? D = none)
    (F : Fr h₀ L h m) (N : News h₀ L h news) (hst : St 0 h) (hacc : h.PlainList D #[]) (hn : h.Ns C mC) (hsz : n ≤ sizeLine) (j0 : J 0 [] news)
    (elem : ElemOk prog w A env scope' cl x elt h₀ L m s news J P n)
    (hR : ∀ h' tk m' zs n₁, h'.Ns C m' → h'.PlainList D zs.toArray → Fr h₀ L h' m → News h₀ L h' n₁ → (∀ q ∈ n₁, q.1 ≠ I ∧ q.1 ≠ C ∧ q.1 ≠ D) → (∀ q ∈ news, q ∈ n₁) → J n zs n₁ → zs.length = n → R (.ok .next) { s with heap := h', toks := tk }) :
    codeAny (model prog w) A (.compLoop (.ListComp elt [⟨.Name x px, iter, [], 0⟩] scope pos) 0 (.ref I) (.ref D) (compEnvC scope' cl C env)) R { s with heap := h, toks := tk } := by
  refine codeAny_compLoop_tests
    (fun k s' => ∃ h tk mC zs n₁, s' = { s with heap := h, toks := tk } ∧ St zs.length h ∧ h.PlainList D zs.toArray ∧ h.Ns C mC ∧ Fr h₀ L h m ∧ News h₀ L h n₁ ∧ (∀ q ∈ n₁, q.1 ≠ I ∧ q.1 ≠ C ∧ q.1 ≠ D) ∧ (∀ q ∈ news, q ∈ n₁) ∧ J zs.length zs n₁ ∧ zs.length ≤ n ∧ k = n + 1 - zs.length) ?_ (n + 1)
    ⟨h, tk, mC, [], news, rfl, hst, hacc, hn, F, N, nI, fun _ q => q, j0, Nat.zero_le _, rfl⟩
  rintro k s' ⟨h, tk, mC, zs, n₁, rfl, hst, hacc, hn, F, N, nn, sub, hJ, hi, rfl⟩
  have nwr : ∀ b, b ≠ I → b ∉ wr := fun b hb hm => hb (hwr b hm)
  by_cases hlt : zs.length < n
  · refine W.item zs.length _ _ _ hlt hst fun v h₁ tk₁ hPv hst₁ hk₁ => ?_
    have k₁ : ∀ b o, b ≠ I → h.get? b = some o → h₁.get? b = some o := fun b o hb e => hk₁ b o (nwr b hb) e
    refine wpAny_assign_Name (wpAny_storeName_local hx (hn.at' fun o e => k₁ _ o hCI e) (fun h₂ hn₂ hs₂ => ?_) hp)
    have k₂ : ∀ b o, b ≠ C → h₁.get? b = some o → h₂.get? b = some o := fun b o hb e => hs₂.extBut b o hb e
    have hfC : ∀ b ∈ fp, b ≠ C := fun b hb e => by
      rcases hfp b hb with rfl | ⟨o, ho⟩
      · exact hCI e.symm
      · exact (nI _ ho).2.1 e
    have hst₂ : St (zs.length + 1) h₂ := W.frame _ _ _ hst₁ fun b hb o e => k₂ b o (hfC b hb) e
    obtain ⟨oI, eI⟩ := hI _ _ hst₂
    obtain ⟨oC, esC, epC, eC, rC⟩ := id hn₂
    obtain ⟨kD, eD⟩ := hacc.at (h' := h₂) fun o e => k₂ _ o hDC (k₁ _ o hDI e)
    have F₂ : Fr h₀ L h₂ m := fr_but' (fr_but' F k₁ (Ne.symm fI.1) fI.2) k₂ (Ne.symm fC.1) fC.2
    have N₂ : News h₀ L h₂ ((I, oI) :: (C, oC) :: (D, listOf zs.toArray kD) :: n₁) := fun q hq => by
      rcases List.mem_cons.mp hq with rfl | hq
      · exact ⟨eI, fI⟩
      · rcases List.mem_cons.mp hq with rfl | hq
        · exact ⟨eC, fC⟩
        · rcases List.mem_cons.mp hq with rfl | hq
          · exact ⟨eD, fD⟩
          · exact ⟨k₂ _ _ (nn q hq).2.1 (k₁ _ _ (nn q hq).1 (N q hq).1), (N q hq).2⟩
    refine wpAny_pure ?_
    rw [if_pos rfl]
    refine wpAny_mono (elem C zs.length v zs n₁ _ h₂ _ _ _ hlt hPv hJ rfl sub (fun q hq => .tail _ (.tail _ (.tail _ hq))) F₂ N₂ hn₂ (by simp) ⟨oC, .tail _ (.head _)⟩) (fun y s₄ h₄ => ?_) fun _ _ e => e
    obtain ⟨h₃, tk₃, nw, rfl, F₃, N₃, fr₃, hJ₃⟩ := h₄
    have k₃ : ∀ q ∈ ((I, oI) :: (C, oC) :: (D, listOf zs.toArray kD) :: n₁), h₃.get? q.1 = some q.2 := fun q hq => (N₃ q (List.mem_append_right _ hq)).1
    have hst₃ : St (zs.length + 1) h₃ := W.frame _ _ _ hst₂ fun b hb o e => by
      rcases hfp b hb with rfl | ⟨o', ho⟩
      · have := k₃ _ (.head _)
        rw [eI] at e; cases e; exact this
      · have e2 := k₃ _ (.tail _ (.tail _ (.tail _ (sub _ ho))))
        have e3 := (N₂ _ (.tail _ (.tail _ (.tail _ (sub _ ho))))).1
        dsimp only at e2 e3
        rw [e3] at e; cases e; exact e2
    have hn₃ : h₃.Ns C _ := ⟨oC, esC, epC, k₃ _ (.tail _ (.head _)), rC⟩
    refine wpAny_list_append_plain (items := zs.toArray) (hsz := by rw [List.size_toArray]; omega) ⟨kD, k₃ _ (.tail _ (.tail _ (.head _)))⟩ fun h₅ hl₅ hs₅ => ?_
    have k₅ : ∀ b o, b ≠ D → h₃.get? b = some o → h₅.get? b = some o := fun b o hb e => hs₅.extBut b o hb e
    refine ⟨n + 1 - (zs.length + 1), by omega, h₅, tk₃, _, zs ++ [y], nw ++ n₁, rfl, ?_, by simpa using hl₅, hn₃.at' fun o e => k₅ _ o (Ne.symm hDC) e, fr_but' F₃ k₅ (Ne.symm fD.1) fD.2, fun q hq => ?_, fun q hq => ?_, fun q hq => List.mem_append_right _ (sub q hq), ?_, ?_, ?_⟩
    · rw [List.length_append]
      refine W.frame _ _ _ hst₃ fun b hb o e => k₅ b o (fun q => ?_) e
      rcases hfp b hb with rfl | ⟨o', ho⟩
      · exact hDI q.symm
      · exact (nI _ ho).2.2 q
    · have nD : q.1 ≠ D := by
        rcases List.mem_append.mp hq with hq | hq
        · exact fun e => fr₃ q hq (D, _) (.tail _ (.tail _ (.head _))) e.symm
        · exact (nn q hq).2.2
      have := N₃ q (by
        rcases List.mem_append.mp hq with hq | hq
        · exact List.mem_append_left _ hq
        · exact List.mem_append_right _ (.tail _ (.tail _ (.tail _ hq))))
      exact ⟨k₅ _ _ nD this.1, this.2⟩
    · rcases List.mem_append.mp hq with hq | hq
      · exact ⟨fun e => fr₃ q hq (I, _) (.head _) e.symm, fun e => fr₃ q hq (C, _) (.tail _ (.head _)) e.symm, fun e => fr₃ q hq (D, _) (.tail _ (.tail _ (.head _))) e.symm⟩
      · exact nn q hq
    · rw [List.length_append]; exact hJ₃
    · rw [List.length_append]; exact hlt
    · rw [List.length_append]; rfl
  · have hin : zs.length = n := by omega
    refine W.done _ _ _ (hin ▸ hst) fun h₁ tk₁ hk₁ => ?_
    have k₁ : ∀ b o, b ≠ I → h.get? b = some o → h₁.get? b = some o := fun b o hb e => hk₁ b o (nwr b hb) e
    exact hR h₁ tk₁ mC zs n₁ (hn.at' fun o e => k₁ _ o hCI e) (hacc.at fun o e => k₁ _ o hDI e) (fr_but' F k₁ (Ne.symm fI.1) fI.2) (fun q hq => ⟨k₁ _ _ (nn q hq).1 (N q hq).1, (N q hq).2⟩) nn sub (hin ▸ hJ) hin
end
end Mine
namespace Mine
section
variable {prog : Program} {w : World} {A : Around} {E : Value → Shared → Prop} {s : Shared} {h₀ : Heap} {L : Addr} {m : Str → Option Value} {news : List (Addr × Obj)} {env : Env}
/-- a source of a comprehension, told by its iterator -/
structure SrcOk (prog : Program) (w : World) (A : Around) (h₀ : Heap) (L : Addr) (m : Str → Option Value) (news : List (Addr × Obj)) (h : Heap) (I : Addr) (fp wr : List Addr) (n : Nat) (P : Nat → Value → Prop) (St : Nat → Heap → Prop) : Prop where
  W : Walks prog w A I fp wr n P St
  hI : ∀ i h, St i h → ∃ o, h.get? I = some o
  hfp : ∀ b ∈ fp, b = I ∨ ∃ o, (b, o) ∈ news
  hwr : ∀ b ∈ wr, b = I
  hsz : n ≤ sizeLine
  hst : St 0 h
  lt : I < h.objs.size
  fI : I ≠ L ∧ h₀.get? I = none
  F : Fr h₀ L h m
  N : News h₀ L h news
  nI : ∀ q ∈ news, q.1 ≠ I
theorem comp_block_own {elt iter : Expr} {x : Str} {px : Pos} {scope : Scope} {cl : List (Str × Addr)} {pos : Pos} {h : Heap} {tk : Nat} {I : Addr} {fp wr : List Addr} {n : Nat} {P : Nat → Value → Prop} {St : Nat → Heap → Prop} {RR : Value → Addr → Result → Shared → Prop}
    (J : Nat → List Value → List (Addr × Obj) → Prop) (O : SrcOk prog w A h₀ L m news h I fp wr n P St)
    (hcell : ∀ y ∈ scope.names, y.2 ≠ .cell) (hkind : scope.kind = .function) (hx : scope.names.lookup x = some .local) (j0 : J 0 [] news)
    (elem : ElemOk prog w A env scope cl x elt h₀ L m s news J P n)
    (hRR : ∀ D C h' tk m' zs n₁ k, D ≠ C → D ≠ L → C ≠ L → h₀.get? D = none → h₀.get? C = none → h'.Ns C m' → h'.get? D = some (listOf zs.toArray k) → Fr h₀ L h' m → News h₀ L h' n₁ → (∀ q ∈ n₁, q.1 ≠ C ∧ q.1 ≠ D) → (∀ q ∈ news, q ∈ n₁) → J n zs n₁ → zs.length = n → RR (.ref D) C (.ok .next) { s with heap := h', toks := tk }) :
    wpAny (model prog w) A (newList []) (fun acc s₃ => wpAny (model prog w) A (newFunctionEnv scope env.globals cl [] env.qual none .none (some env)) (fun cenv s₄ =>
      codeAny (model prog w) A (.compStart (.ListComp elt [⟨.Name x px, iter, [], 0⟩] scope pos) 0 (.ref I) acc { cenv with scope := relabel scope env }) (RR acc cenv.locals) s₄) E s₃) E { s with heap := h, toks := tk } := by
  obtain ⟨W, hI, hfp, hwr, hsz, hst, lt, fI, F, N, nI⟩ := O
  refine wpAny_newObj_type (wpAny_newFunctionEnv hcell (by intro y hy; simp at hy) (fun h₁ hns₁ hsb₁ => ?_) hkind)
  dsimp only at hns₁ hsb₁ ⊢
  generalize hH2 : h.push { cls := .type "list", dict := none, data := .seq ([] : List Value).toArray } = H2 at hns₁ hsb₁ ⊢
  have hC : H2.objs.size = h.objs.size + 1 := by rw [← hH2, Heap.size_push]
  have hDC : h.objs.size ≠ H2.objs.size := by rw [hC]; exact Nat.ne_of_lt (Nat.lt_succ_self _)
  have below : ∀ b, b < h.objs.size → b ≠ H2.objs.size ∧ b ≠ h.objs.size := fun b hb => ⟨by rw [hC]; exact Nat.ne_of_lt (Nat.lt_succ_of_lt hb), Nat.ne_of_lt hb⟩
  have old : ∀ b o, h.get? b = some o → h₁.get? b = some o := fun b o e => hsb₁.extBut b o (below b (Heap.lt_size e)).1 (Heap.get?_push_of_some _ (hH2 ▸ Heap.get?_push_of_some _ e))
  have hacc : h₁.PlainList h.objs.size #[] := ⟨_, hsb₁.extBut _ _ hDC (Heap.get?_push_of_some _ (hH2 ▸ Heap.get?_push_size _ rfl))⟩
  have hst₁ : St 0 h₁ := W.frame _ _ _ hst fun b _ o e => old b o e
  have hL := F.ns.lt
  have ge0 : ∀ b, h.objs.size ≤ b → h₀.get? b = none := fun b hb => by
    cases e : h₀.get? b with
    | none => rfl
    | some o => exact absurd (Heap.lt_size (F.keep b o e)) (Nat.not_lt.mpr hb)
  have F₁ : Fr h₀ L h₁ m := ⟨F.ns.at' fun o e => old _ o e, fun b o e => old b o (F.keep b o e), F.above⟩
  have N₁ : News h₀ L h₁ news := fun q hq => ⟨old _ _ (N q hq).1, (N q hq).2⟩
  have fD : h.objs.size ≠ L ∧ h₀.get? h.objs.size = none := ⟨Nat.ne_of_gt hL, ge0 _ (Nat.le_refl _)⟩
  have fC : H2.objs.size ≠ L ∧ h₀.get? H2.objs.size = none := ⟨by rw [hC]; exact Nat.ne_of_gt (Nat.lt_succ_of_lt hL), ge0 _ (by rw [hC]; exact Nat.le_succ _)⟩
  have loop : ∀ s₃ : Shared, s₃ = { s with heap := h₁, toks := tk + ([] : List (Str × Value)).length } →
      codeAny (model prog w) A (.compLoop (.ListComp elt [⟨.Name x px, iter, [], 0⟩] scope pos) 0 (.ref I) (.ref h.objs.size) (compEnvC scope cl H2.objs.size env)) (RR (.ref h.objs.size) H2.objs.size) s₃ := by
    rintro s₃ rfl
    refine comp_loop_own J W hI hfp hwr (lookup_relabel_local hx) (by simp [compEnvC, relabel, hkind]) hDC (Nat.ne_of_gt lt) (by rw [hC]; exact Nat.ne_of_gt (Nat.lt_succ_of_lt lt)) (fun q hq => ⟨nI q hq, (below _ (Heap.lt_size (N q hq).1)).1, (below _ (Heap.lt_size (N q hq).1)).2⟩) fI fC fD F₁ N₁ hst₁ hacc hns₁ hsz j0 elem ?_
    intro h' tk m' zs n₁ hn ⟨k, hpl⟩ F' N' nn sub hJ hz
    exact hRR _ _ h' tk m' zs n₁ k hDC fD.1 fC.1 fD.2 fC.2 hn hpl F' N' (fun q hq => (nn q hq).2) sub hJ hz
  exact codeAny_compStart_list (loop _ rfl) (W.self 0 _ _ _ hst₁ (loop _ rfl))
theorem news_same {C D : Addr} {k : Nat} {h h' : Heap} {zs : Array Value} {n₁ : List (Addr × Obj)} (N : News h₀ L h n₁) (hD : h.get? D = some (listOf zs k)) (fD : D ≠ L ∧ h₀.get? D = none) (hDC : D ≠ C) (nn : ∀ q ∈ n₁, q.1 ≠ C ∧ q.1 ≠ D) (hs : Heap.SameBut C h h') : News h₀ L h' ((D, listOf zs k) :: n₁) := fun q hq => by
  rcases List.mem_cons.mp hq with rfl | hq
  · exact ⟨hs.extBut _ _ hDC hD, fD⟩
  · exact ⟨hs.extBut _ _ (nn q hq).1 (N q hq).1, (N q hq).2⟩
theorem fr_same {C : Addr} {h h' : Heap} (F : Fr h₀ L h m) (hCL : C ≠ L) (h0 : h₀.get? C = none) (hs : Heap.SameBut C h h') : Fr h₀ L h' m := fr_but' F (fun b o hb e => hs.extBut b o hb e) (Ne.symm hCL) h0
theorem ListComp_own {elt iter : Expr} {x : Str} {px : Pos} {scope : Scope} {cl : List (Str × Addr)} {pos : Pos} {Q : Value → Shared → Prop} (J : Nat → List Value → List (Addr × Obj) → Prop) (_F : Fr h₀ L s.heap m)
    (hclos : closureFor scope env = pure cl) (hcell : ∀ y ∈ scope.names, y.2 ≠ .cell) (hkind : scope.kind = .function)
    (hnames : ∀ y ∈ scope.names, y.2 = .local → scope.names.lookup y.1 = some .local) (hx : scope.names.lookup x = some .local)
    (h : wpAny (model prog w) A (eval iter env) (fun xv s₁ => wpAny (model prog w) A (pyIter xv) (fun it s₂ => ∃ I fp wr n P St h tk news', s₂ = { s with heap := h, toks := tk } ∧ it = .ref I ∧ SrcOk prog w A h₀ L m news' h I fp wr n P St ∧ J 0 [] news' ∧ ElemOk prog w A env scope cl x elt h₀ L m s news' J P n ∧
      (∀ D zs k n₁ h' tk, Fr h₀ L h' m → News h₀ L h' ((D, listOf zs.toArray k) :: n₁) → (∀ q ∈ n₁, q.1 ≠ D) → (∀ q ∈ news', q ∈ n₁) → J n zs n₁ → zs.length = n → Q (.ref D) { s with heap := h', toks := tk })) E s₁) E s)
    (hs : ∀ x, foldedSetIterable iter env x = pure x) :
    wpAny (model prog w) A (eval (.ListComp elt [⟨.Name x px, iter, [], 0⟩] scope pos) env) Q E s := by
  rw [eval_ListComp]
  refine wpAny_comprehension_free (use := none) rfl hs hclos hkind hnames (wpAny_mono h (fun xv s₁ h₁ => wpAny_mono h₁ (fun it s₂ h₂ => ?_) fun _ _ e => e) fun _ _ e => e)
  obtain ⟨I, fp, wr, n, P, St, h, tk, news', rfl, rfl, O, j0, elem, done⟩ := h₂
  refine comp_block_own (RR := fun acc C => compPost (model prog w) A E none Q acc C) J O hcell hkind hx j0 elem ?_
  intro D C h' tk m' zs n₁ k hDC hDL hCL hD0 hC0 hn hD F' N' nn sub hJ hz
  exact ⟨m', hn, fun h'' hs'' => done D zs k n₁ h'' tk (fr_same F' hCL hC0 hs'') (news_same N' hD ⟨hDL, hD0⟩ hDC nn hs'') (fun q hq => (nn q hq).2) sub hJ hz⟩
theorem Assign_own {elt iter : Expr} {x y : Str} {px py : Pos} {scope : Scope} {cl : List (Str × Addr)} {pos spos : Pos} {Q : Flow → Shared → Prop} (J : Nat → List Value → List (Addr × Obj) → Prop) (_F : Fr h₀ L s.heap m) (hL : env.locals = L)
    (hsw : swapsWith (.ListComp elt [⟨.Name x px, iter, [], 0⟩] scope pos) (some (.Name y py)) spos.line env = pure true)
    (hclos : closureFor scope env = pure cl) (hcell : ∀ z ∈ scope.names, z.2 ≠ .cell) (hkind : scope.kind = .function)
    (hnames : ∀ z ∈ scope.names, z.2 = .local → scope.names.lookup z.1 = some .local) (hx : scope.names.lookup x = some .local)
    (hy : env.kindOf y = some .local) (hp : (env.scope.kind == .class || (env.scope.kind == .module && env.locals != env.globals)) = false)
    (h : wpAny (model prog w) A (eval iter env) (fun xv s₁ => wpAny (model prog w) A (pyIter xv) (fun it s₂ => ∃ I fp wr n P St h tk news', s₂ = { s with heap := h, toks := tk } ∧ it = .ref I ∧ SrcOk prog w A h₀ L m news' h I fp wr n P St ∧ J 0 [] news' ∧ ElemOk prog w A env scope cl x elt h₀ L m s news' J P n ∧
      (∀ D zs k n₁ h' tk, Fr h₀ L h' (fun z => if z = y then some (.ref D) else m z) → News h₀ L h' ((D, listOf zs.toArray k) :: n₁) → (∀ q ∈ n₁, q.1 ≠ D) → (∀ q ∈ news', q ∈ n₁) → J n zs n₁ → zs.length = n → Q .next { s with heap := h', toks := tk })) E s₁) E s)
    (hs : ∀ x, foldedSetIterable iter env x = pure x) :
    wpAny (model prog w) A (exec (.Assign [.Name y py] (.ListComp elt [⟨.Name x px, iter, [], 0⟩] scope pos) spos) env) Q E s := by
  subst hL
  rw [exec_Assign_Name_used _ _ _ _ hsw]
  refine wpAny_bind (wpAny_standAt (wpAny_bind ?_))
  show wpAny _ A (do let _ ← comprehension (.ListComp elt [⟨.Name x px, iter, [], 0⟩] scope pos) scope env _ (newList []) false (eval iter env) (some (assign (.Name y py) env))) _ _ s
  refine wpAny_bind (wpAny_mono (wpAny_comprehension_free (use := some (assign (.Name y py) env)) (Q := fun _ s' => Q .next s') rfl hs hclos hkind hnames
    (wpAny_mono h (fun xv s₁ h₁ => wpAny_mono h₁ (fun it s₂ h₂ => ?_) fun _ _ e => e) fun _ _ e => e)) (fun _ s' hq => wpAny_pure (wpAny_pure hq)) fun _ _ e => e)
  obtain ⟨I, fp, wr, n, P, St, h, tk, news', rfl, rfl, O, j0, elem, done⟩ := h₂
  refine comp_block_own (RR := fun acc C => compPost (model prog w) A E (some (assign (.Name y py) env)) (fun _ s' => Q .next s') acc C) J O hcell hkind hx j0 elem ?_
  intro D C h' tk m' zs n₁ k hDC hDL hCL hD0 hC0 hn hD F' N' nn sub hJ hz
  show wpAny _ A (assign (.Name y py) env (.ref D)) _ _ _
  refine wpAny_assign_Name (wpAny_storeName_local hy F'.ns (fun h₂ hn₂ hs₂ => ?_) hp)
  refine ⟨m', hn.sameBut hs₂ hCL, fun h₃ hs₃ => ?_⟩
  have D2 : h₂.get? D = some (listOf zs.toArray k) := hs₂.extBut _ _ hDL hD
  have F2 : Fr h₀ env.locals h₂ (fun z => if z = y then some (.ref D) else m z) := ⟨hn₂, fun b o e => hs₂.extBut b o (fun q => by
    have := F'.above
    rw [← q] at this
    exact absurd (Nat.lt_of_lt_of_le (Heap.lt_size e) this) (Nat.lt_irrefl _)) (F'.keep b o e), F'.above⟩
  have N2 : News h₀ env.locals h₂ n₁ := fun q hq => ⟨hs₂.extBut _ _ (N' q hq).2.1 (N' q hq).1, (N' q hq).2⟩
  exact done D zs k n₁ h₃ _ (fr_same F2 hCL hC0 hs₃) (news_same N2 D2 ⟨hDL, hD0⟩ hDC nn hs₃) (fun q hq => (nn q hq).2) sub hJ hz
/-- the source a list of the ledger -/
theorem src_list {l : Addr} {its : Array Value} {n : Nat} {h : Heap} {tk : Nat} {Q : Value → Shared → Prop} (hh : A.handled = none) (F : Fr h₀ L h m) (N : News h₀ L h news) (hl : (l, listOf its n) ∈ news) (hsz : its.size ≤ sizeLine)
    (hQ : ∀ I fp wr P St h', SrcOk prog w A h₀ L m news h' I fp wr its.size P St → (∀ i v, P i v → its[i]? = some v) → Q (.ref I) { s with heap := h', toks := tk }) :
    wpAny (model prog w) A (pyIter (.ref l)) Q E { s with heap := h, toks := tk } := by
  have z := N _ hl
  have hL : h.IsList l its := ⟨_, z.1, rfl, n, rfl⟩
  have hlt := Heap.lt_size z.1
  refine wpAny_pyIter_list hL ?_
  have up : ∀ b o, h.get? b = some o → (h.push { cls := .type "list_iterator", data := .fields #[.ref l, .int 0 0] }).get? b = some o := fun b o e => Heap.get?_push_of_some _ e
  refine hQ h.objs.size _ _ _ _ _ ⟨Walks.list hh h.objs.size l (Nat.ne_of_lt hlt) its, ?_, ?_, ?_, hsz, ⟨⟨_, Heap.get?_push_size _ rfl, rfl, rfl⟩, hL.push _⟩, ?_, ?_, F.push _, fun q hq => ⟨up _ _ (N q hq).1, (N q hq).2⟩, fun q hq => Nat.ne_of_lt (Heap.lt_size (N q hq).1)⟩ fun _ _ h => h
  · rintro i h ⟨⟨o, e, _⟩, _⟩; exact ⟨o, e⟩
  · intro b hb
    rcases List.mem_cons.mp hb with rfl | hb
    · exact .inl rfl
    · exact .inr ⟨_, List.mem_singleton.mp hb ▸ hl⟩
  · intro b hb; exact List.mem_singleton.mp hb
  · rw [Heap.size_push]; exact Nat.lt_succ_self _
  · exact ⟨Nat.ne_of_gt F.ns.lt, next_is_new F⟩
theorem src_range {r : Addr} {N₁ : Nat} {tu tv tw : Tok} {h : Heap} {tk : Nat} {Q : Value → Shared → Prop} (hh : A.handled = none) (F : Fr h₀ L h m) (N : News h₀ L h news) (hr : IsRange h r 0 (N₁ : Nat) 1 tu tv tw) (hsz : N₁ < 1000)
    (hQ : ∀ I fp wr P St h', SrcOk prog w A h₀ L m news h' I fp wr N₁ P St → (∀ i v, P i v → ∃ t, v = .int ((i : Nat) : Int) t) → Q (.ref I) { s with heap := h', toks := tk }) :
    wpAny (model prog w) A (pyIter (.ref r)) Q E { s with heap := h, toks := tk } := by
  have hsm : Builtin.Range.small 0 (N₁ : Nat) 1 = true := small_one (by omega) (by omega) (by omega) (by omega)
  have hn : Builtin.Range.rangeSize 0 (N₁ : Nat) 1 = ((N₁ : Nat) : Int) := rangeSize_nat _ _
  refine wpAny_pyIter_range hr hsm ?_
  rw [hn]
  dsimp only
  have up : ∀ b' o, h.get? b' = some o → (h.push { cls := .type "range_iterator", data := .fields #[rawInt 0, rawInt ((N₁ : Nat) : Int), rawInt 1] }).get? b' = some o := fun b o e => Heap.get?_push_of_some _ e
  refine hQ h.objs.size _ _ _ _ _ ⟨walks_bound (Walks.range hh h.objs.size 0 1 N₁), ?_, ?_, ?_, (by rw [sizeLine_eq]; omega), ?_, ?_, ?_, F.push _, fun q hq => ⟨up _ _ (N q hq).1, (N q hq).2⟩, fun q hq => Nat.ne_of_lt (Heap.lt_size (N q hq).1)⟩ ?_
  · intro i h st
    first | exact ⟨_, st⟩ | (obtain ⟨o, e, _⟩ := st; exact ⟨o, e⟩)
  · intro b hb; exact .inl (List.mem_singleton.mp hb)
  · intro b hb; exact List.mem_singleton.mp hb
  · have e1 : (0 : Int) + ((0 : Nat) : Int) * 1 = 0 := by decide
    have e2 : (N₁ : Int) - ((0 : Nat) : Int) = N₁ := Int.sub_zero _
    show IsRangeIter _ _ ((0 : Int) + ((0 : Nat) : Int) * 1) ((N₁ : Int) - ((0 : Nat) : Int)) 1
    rw [e1, e2]
    exact Heap.get?_push_size _ rfl
  · rw [Heap.size_push]; exact Nat.lt_succ_self _
  · exact ⟨Nat.ne_of_gt F.ns.lt, next_is_new F⟩
  · rintro i v ⟨_, t, e⟩
    rw [Int.mul_one, Int.zero_add] at e
    exact ⟨t, e⟩
end
end Mine
namespace Mine
section
variable {prog : Program} {w : World} {A : Around} {E : Value → Shared → Prop} {s : Shared} {h₀ : Heap} {L : Addr} {m : Str → Option Value} {news : List (Addr × Obj)} {env : Env}
theorem ints_to {vs : List Value} {ns : List Int} (h : IntsAre vs ns) : ∀ {i : Nat} {v : Value}, vs[i]? = some v → ∃ z t, v = .int z t ∧ ns[i]? = some z := by
  induction h with
  | nil => intro i v e; simp at e
  | cons n t _ ih =>
    intro i v e
    cases i with
    | zero => cases e; exact ⟨n, t, rfl, rfl⟩
    | succ j => exact ih e
theorem ints_snoc {zs : List Value} {xs : List Int} (h : IntsAre zs xs) (z : Int) (t : Tok) : IntsAre (zs ++ [.int z t]) (xs ++ [z]) := by
  induction h with
  | nil => exact .cons _ _ .nil
  | cons a b _ ih => exact .cons a b ih
def overA : List (Str × Value) → (Str → Option Value) → Str → Option Value
  | [], M => M
  | (a, v) :: r, M => fun y => if y = a then some v else overA r M y
theorem overA_eq : ∀ {l : List (Str × Value)} {M : Str → Option Value}, (∀ p ∈ l, M p.1 = some p.2) → overA l M = M
  | [], _, _ => rfl
  | (a, v) :: r, M, h => by
    funext y
    show (if y = a then some v else overA r M y) = M y
    by_cases e : y = a
    · rw [if_pos e, e]; exact (h _ (.head _)).symm
    · rw [if_neg e, overA_eq fun p hp => h p (.tail _ hp)]
theorem fr_split {S : List Str} {Mo : Str → Option Value} {h : Heap} {l : List (Str × Value)} (F : Fr h₀ L h m) (A : Agree S Mo m) (hl : ∀ p ∈ l, m p.1 = some p.2) : ∃ M2 : Str → Option Value, Agree S Mo M2 ∧ Fr h₀ L h (overA l M2) := ⟨m, A, by rw [overA_eq hl]; exact F⟩
theorem Agree.same {S : List Str} {M m : Str → Option Value} {x : Str} {v : Option Value} (h : Agree S M m) (e : M x = v) : Agree S M (fun y => if y = x then v else m y) := fun y hy => by
  show (if y = x then v else m y) = M y
  by_cases e2 : y = x
  · rw [if_pos e2, e2]; exact e.symm
  · rw [if_neg e2]; exact h y hy
/-- an item of a list of the ledger at a place that is known to hold it -/
theorem item_at {D : Addr} {a : Array Value} {k : Nat} {z : Int} {u : Tok} {v : Value} {value slice : Expr} {Q : Value → Shared → Prop} (N : News h₀ L s.heap news) (hl : (D, listOf a k) ∈ news) (hv : a.toList[z.toNat]? = some v) (h0 : 0 ≤ z) (hz : z < 1000) (h : Q v s)
    (hs : subscripted slice false (.ref D) (.int z u) = operate [.ref D, .int z u] (getItem (.ref D) (.int z u)) := by with_unfolding_all rfl) (hg : ∀ r, letTemporaryGo value (.ref D) r = pure () := by intro _; with_unfolding_all rfl) :
    wpAny (model prog w) A (subscriptTail value slice (.ref D) (.int z u)) Q E s :=
  item_listL (l := a.toList) ⟨_, (N _ hl).1, rfl, k, rfl⟩ h0 (by omega) hv h hs hg
/-- an item of a written list at a place in bounds -/
theorem pick_item {D : Addr} {l : List Value} {k : Nat} {z : Int} {u : Tok} {value slice : Expr} {Q : Value → Shared → Prop} (N : News h₀ L s.heap news) (hl : (D, listOf l.toArray k) ∈ news) {B : Int} (hb : 0 ≤ z ∧ z < B) (hB : (l.length : Int) = B) (hfit : l.length < 1000) (h : ∀ v, v ∈ l → Q v s)
    (hs : subscripted slice false (.ref D) (.int z u) = operate [.ref D, .int z u] (getItem (.ref D) (.int z u)) := by with_unfolding_all rfl) (hg : ∀ r, letTemporaryGo value (.ref D) r = pure () := by intro _; with_unfolding_all rfl) :
    wpAny (model prog w) A (subscriptTail value slice (.ref D) (.int z u)) Q E s := by
  obtain ⟨h0, hz⟩ := hb
  obtain ⟨v, hv⟩ : ∃ v, l[z.toNat]? = some v := ⟨_, List.getElem?_eq_getElem (by omega)⟩
  exact item_at N hl hv h0 (by omega) (h v (List.mem_of_getElem? hv)) hs hg
theorem two_pick {D : Addr} {y0 y1 : Str} {t0 t1 : Tok} {k : Nat} {z : Int} {u : Tok} {value slice : Expr} {Q : Value → Shared → Prop} (N : News h₀ L s.heap news) (hl : (D, listOf #[.str y0 t0, .str y1 t1] k) ∈ news) (hb : 0 ≤ z ∧ z < 2) (h : ∀ y t, (y = y0 ∨ y = y1) → Q (.str y t) s)
    (hs : subscripted slice false (.ref D) (.int z u) = operate [.ref D, .int z u] (getItem (.ref D) (.int z u)) := by with_unfolding_all rfl) (hg : ∀ r, letTemporaryGo value (.ref D) r = pure () := by intro _; with_unfolding_all rfl) :
    wpAny (model prog w) A (subscriptTail value slice (.ref D) (.int z u)) Q E s := by
  refine pick_item (l := [.str y0 t0, .str y1 t1]) N hl hb rfl (show 2 < 1000 by decide) (fun v hv => ?_) hs hg
  rcases List.mem_cons.mp hv with rfl | hv
  · exact h _ _ (.inl rfl)
  · rcases List.mem_cons.mp hv with rfl | hv
    · exact h _ _ (.inr rfl)
    · cases hv
theorem in_tupK {D : Addr} {a : Array Value} {k : Int} {t : Tok} {ns : List Int} {b : Bool} {c : Nat} {Q : Value → Shared → Prop} (N : News h₀ L s.heap news) (hm : (D, ({ cls := .type "tuple", data := .seq a c } : Obj)) ∈ news) (hb : decide (k ∈ ns) = b) (hi : IntsAre a.toList ns) (h : Q (.bool b) s) : wpAny (model prog w) A (compareOp .In (.int k t) (.ref D)) Q E s := by
  refine in_tuple_ints (News.isTup N hm) hi ?_
  have e : ns.any (· == k) = b := by
    rw [← hb]
    by_cases h : k ∈ ns
    · rw [decide_eq_true h, List.any_eq_true]
      exact ⟨_, h, beq_self_eq_true _⟩
    · rw [decide_eq_false h, Bool.eq_false_iff]
      intro h2
      rw [List.any_eq_true] at h2
      obtain ⟨y, hy, e⟩ := h2
      rw [beq_iff_eq.mp e] at hy
      exact h hy
  rw [e]
  exact h
theorem list_copyL {l : Addr} {a : Array Value} {k : Nat} {Q : Value → Shared → Prop} (F : Fr h₀ L s.heap m) (N : News h₀ L s.heap news) (hl : (l, listOf a k) ∈ news) (hsz : a.size ≤ 1000)
    (h : ∀ D c h', Fr h₀ L h' m → News h₀ L h' ((D, listOf a c) :: news) → (∀ q ∈ news, q.1 < D) → Q (.ref D) { s with heap := h' }) :
    wpAny (model prog w) A (call (.type "list") [.ref l]) Q E s :=
  list_copyK F N ⟨_, (N _ hl).1, rfl, k, rfl⟩ h (by rw [sizeLine_eq]; omega)
/-- «for on, number, weight in ..», the first a cell -/
theorem assign_tripC {L a' : Addr} {cn : Str} {cs : Scope} {ccd : Value} {cl : List (Str × Addr)} {x₁ x₂ x₃ : Str} {p₁ p₂ p₃ p : Pos} {k : Nat} {t : Addr} {a b c : Value} {n : Nat} {cc : Addr} {o : Obj} {v₀ : Option Value} {Q : Unit → Shared → Prop} (hh : A.handled = none) (F : Fr h₀ L s.heap m) (N : News h₀ L s.heap news)
    (ht : (t, ({ cls := .type "tuple", data := .seq #[a, b, c] n } : Obj)) ∈ news) (hc : cl.lookup x₁ = some cc) (hm : (cc, o) ∈ news) (hd : o.data = .cell v₀) (hk : cs.kind = .function) (h1 : (envX cn cs L a' ccd cl).kindOf x₁ = some .cell) (h2 : (envX cn cs L a' ccd cl).kindOf x₂ = some .local) (h3 : (envX cn cs L a' ccd cl).kindOf x₃ = some .local)
    (h : ∀ h' tk o' n', Fr h₀ L h' (fun y => if y = x₃ then some c else if y = x₂ then some b else m y) → News h₀ L h' n' → Kept cc news n' → (cc, o') ∈ n' → o'.data = .cell (some a) → Q () { s with heap := h', toks := tk }) :
    wpAny (model prog w) A (assign (.Tuple [.Name x₁ p₁, .Name x₂ p₂, .Name x₃ p₃] k p) (envX cn cs L a' ccd cl) (.ref t)) Q E s := by
  have hp : ((envX cn cs L a' ccd cl).scope.kind == .class || ((envX cn cs L a' ccd cl).scope.kind == .module && (envX cn cs L a' ccd cl).locals != (envX cn cs L a' ccd cl).globals)) = false := by
    show (cs.kind == .class || (cs.kind == .module && _)) = false
    rw [hk]
    rfl
  refine unpackN_ F N (items := #[a, b, c]) (N.isTup ht) hh rfl rfl fun h' F' N' => ?_
  show wpAny _ _ (assignInOrder [assign (.Name x₁ p₁) _, assign (.Name x₂ p₂) _, assign (.Name x₃ p₃) _] [a, b, c]) _ _ _
  refine assignInOrder_cons (wpAny_assign_Name (store_cell (x := x₁) F' N' hc hm hd (fun h₂ o₂ n₂ F₂ N₂ K₂ m₂ d₂ => ?_) hk h1))
  refine assignInOrder_cons (wpAny_assign_Name (wpAny_storeName_local h2 F₂.ns (fun h₃ hn₃ hs₃ => ?_) hp))
  refine assignInOrder_cons (wpAny_assign_Name (wpAny_storeName_local h3 hn₃ (fun h₄ hn₄ hs₄ => assignInOrder_nil ?_) hp))
  exact h h₄ _ o₂ n₂ ((F₂.set hn₃ hs₃).set hn₄ hs₄) ((N₂.set hs₃).set hs₄) K₂ m₂ d₂
/-- left[x] - 1 if x in on else left[x] -/
theorem left_elt {scope : Scope} {cl : List (Str × Addr)} {p1 p2 p3 p4 p5 p6 p7 p8 p9 p10 p11 p12 : Pos} {cO cL O D : Addr} {oO oL : Obj} {a b : Array Value} {k kb : Nat} {ls os : List Int} {C : Addr} {i : Nat} {t : Tok} {m₃ : Str → Option Value} {Q : Value → Shared → Prop}
    (hk : (compEnvC scope cl C env).scope.kind = .function) (hj : (compEnvC scope cl C env).kindOf (Str.ofString "x") = some .local) (h1 : (compEnvC scope cl C env).kindOf (Str.ofString "on") = some .cell) (h2 : (compEnvC scope cl C env).kindOf (Str.ofString "left") = some .cell)
    (l1 : cl.lookup (Str.ofString "on") = some cO) (l2 : cl.lookup (Str.ofString "left") = some cL)
    (N : News h₀ L s.heap news) (hO : (cO, oO) ∈ news) (dO : oO.data = .cell (some (.ref O))) (hL : (cL, oL) ∈ news) (dL : oL.data = .cell (some (.ref D))) (hb : (O, listOf b kb) ∈ news) (hob : IntsAre b.toList os) (ha : (D, listOf a k) ∈ news) (hi : IntsAre a.toList ls) (h8 : ls.length = 8) (hi8 : i < 8)
    (hn : s.heap.Ns C m₃) (hm : m₃ (Str.ofString "x") = some (.int ((i : Nat) : Int) t))
    (hQ : ∀ tk t', Q (.int (if ((i : Nat) : Int) ∈ os then ls.getD i 0 - 1 else ls.getD i 0) t') { s with toks := tk }) :
    wpAny (model prog w) A (eval (.IfExp (.Compare (.Name (Str.ofString "x") p1) [.In] [.Name (Str.ofString "on") p2] p3) (.BinOp (.Subscript (.Name (Str.ofString "left") p4) (.Name (Str.ofString "x") p5) p6) .Sub (.Constant (.int 1) 0 p7) p8) (.Subscript (.Name (Str.ofString "left") p9) (.Name (Str.ofString "x") p10) p11) p12) (compEnvC scope cl C env)) Q E s := by
  obtain ⟨z, hz⟩ : ∃ z, ls[i]? = some z := ⟨_, List.getElem?_eq_getElem (by omega)⟩
  have hg : ls.getD i 0 = z := by simp [List.getD, hz]
  obtain ⟨tz, ez⟩ := ints_at hi hz
  have hLD : ∀ tk, (({ s with toks := tk } : Shared)).heap.IsList D a.toList.toArray := fun tk => ⟨_, (N _ ha).1, rfl, k, rfl⟩
  have hLO : s.heap.IsList O b.toList.toArray := ⟨_, (N _ hb).1, rfl, kb, rfl⟩
  refine IfExp_ (wpAny_isTrue_Compare1 ?_)
  refine wpAny_Name (wpAny_loadName_local hk hj hn hm ?_)
  refine wpAny_Name (wpAny_loadName_cell hk h1 l1 ⟨oO, (N _ hO).1, dO⟩ ?_)
  refine in_list_ints hLO hob ?_
  refine wpAny_truthy_bool ?_
  rw [hg] at hQ
  by_cases e : ((i : Nat) : Int) ∈ os
  · rw [if_pos (by first | exact decide_eq_true e | (rw [List.any_eq_true]; exact ⟨_, e, beq_self_eq_true _⟩))]
    simp only [if_pos e] at hQ
    refine wpAny_BinOp ?_
    refine Subscript_ ?_
    refine wpAny_Name (wpAny_loadName_cell hk h2 l2 ⟨oL, (N _ hL).1, dL⟩ ?_)
    refine wpAny_Name (wpAny_loadName_local hk hj hn hm ?_)
    refine item_listL (hLD _) (by omega) (by omega) ez ?_
    refine wpAny_Constant_int ?_
    refine PyProof.Rows.sub_int ?_
    exact hQ _ _
  · rw [if_neg (by first | (rw [decide_eq_true_eq]; exact e) | (rw [List.any_eq_true]; rintro ⟨y, hy, h⟩; rw [beq_iff_eq.mp h] at hy; exact e hy))]
    simp only [if_neg e] at hQ
    refine Subscript_ ?_
    refine wpAny_Name (wpAny_loadName_cell hk h2 l2 ⟨oL, (N _ hL).1, dL⟩ ?_)
    refine wpAny_Name (wpAny_loadName_local hk hj hn hm ?_)
    refine item_listL (hLD _) (by omega) (by omega) ez ?_
    exact hQ _ _
end
end Mine
namespace Mine
open PySem PySem.W PyProof.Rows PySem.SeqAt
theorem list12 {zs : List Int} (h : zs.length = 12) : ∃ z0 z1 z2 z3 z4 z5 z6 z7 z8 z9 z10 z11, zs = [z0, z1, z2, z3, z4, z5, z6, z7, z8, z9, z10, z11] := by
  match zs, h with
  | [a, b, c, d, e, f, g, h, i, j, k, l], _ => exact ⟨a, b, c, d, e, f, g, h, i, j, k, l, rfl⟩
/-- two values that compare as equal at once -/
def Alike0 (v w : Value) : Prop := (∃ z t u, v = .int z t ∧ w = .int z u) ∨ (∃ x t u, v = .str x t ∧ w = .str x u) ∨ v = w
/-- two values of the ledger that compare as equal, as deep as told -/
def Alike (n : List (Addr × Obj)) : Nat → Value → Value → Prop
  | 0, v, w => Alike0 v w
  | d + 1, v, w => Alike0 v w ∨ ∃ a b x y, v = .ref a ∧ w = .ref b ∧ ((∃ k j, (a, listOf x k) ∈ n ∧ (b, listOf y j) ∈ n) ∨ ((a, ({ cls := .type "tuple", data := .seq x } : Obj)) ∈ n ∧ (b, ({ cls := .type "tuple", data := .seq y } : Obj)) ∈ n)) ∧ Paired (Alike n d) x.toList y.toList
theorem Alike.mono {n n' : List (Addr × Obj)} (k : ∀ q ∈ n, q ∈ n') : ∀ {d : Nat} {v w : Value}, Alike n d v w → Alike n' d v w
  | 0, _, _, h => h
  | d + 1, v, w, h => by
    rcases h with h | ⟨a, b, x, y, e1, e2, h3, h4⟩
    · exact .inl h
    · refine .inr ⟨a, b, x, y, e1, e2, ?_, Paired.imp h4 fun _ _ h => Alike.mono k h⟩
      rcases h3 with ⟨i, j, h5, h6⟩ | ⟨h5, h6⟩
      · exact .inl ⟨i, j, k _ h5, k _ h6⟩
      · exact .inr ⟨k _ h5, k _ h6⟩
theorem Alike.int {n : List (Addr × Obj)} {d : Nat} {z : Int} {t u : Tok} : Alike n d (.int z t) (.int z u) := by
  cases d with
  | zero => exact .inl ⟨z, t, u, rfl, rfl⟩
  | succ d => exact .inl (.inl ⟨z, t, u, rfl, rfl⟩)
theorem Alike.str {n : List (Addr × Obj)} {d : Nat} {x : Str} {t u : Tok} : Alike n d (.str x t) (.str x u) := by
  cases d with
  | zero => exact .inr (.inl ⟨x, t, u, rfl, rfl⟩)
  | succ d => exact .inl (.inr (.inl ⟨x, t, u, rfl, rfl⟩))
theorem Alike.refl {n : List (Addr × Obj)} {d : Nat} {v : Value} : Alike n d v v := by
  cases d with
  | zero => exact .inr (.inr rfl)
  | succ d => exact .inl (.inr (.inr rfl))
theorem Alike.list {n : List (Addr × Obj)} {d : Nat} {a b : Addr} {x y : Array Value} {k j : Nat} (h1 : (a, listOf x k) ∈ n) (h2 : (b, listOf y j) ∈ n) (h : Paired (Alike n d) x.toList y.toList) : Alike n (d + 1) (.ref a) (.ref b) := .inr ⟨a, b, x, y, rfl, rfl, .inl ⟨k, j, h1, h2⟩, h⟩
theorem alike_ints {n : List (Addr × Obj)} {d : Nat} {vs ws : List Value} {ns : List Int} (h1 : IntsAre vs ns) : IntsAre ws ns → Paired (Alike n d) vs ws := by
  induction h1 generalizing ws with
  | nil => intro h; cases h; exact .nil
  | cons a t _ ih => intro h; cases h with | cons _ u h => exact .cons Alike.int (ih h)
theorem alike_refl {n : List (Addr × Obj)} {d : Nat} : ∀ {vs : List Value}, Paired (Alike n d) vs vs
  | [] => .nil
  | _ :: _ => .cons Alike.refl alike_refl
theorem paired_get {α β : Type} {F : α → β → Prop} {a : List α} {b : List β} (h : Paired F a b) : ∀ (i : Nat) (h1 : i < a.length) (h2 : i < b.length), F a[i] b[i] := by
  induction h with
  | nil => intro i h1; cases h1
  | cons h _ ih =>
    intro i h1 h2
    cases i with
    | zero => exact h
    | succ j => exact ih j (Nat.lt_of_succ_lt_succ h1) (Nat.lt_of_succ_lt_succ h2)
theorem paired_len' {α β : Type} {F : α → β → Prop} {a : List α} {b : List β} (h : Paired F a b) : a.length = b.length := by
  induction h with
  | nil => rfl
  | cons _ _ ih => rw [List.length_cons, List.length_cons, ih]
theorem all_true (m : Nat) : (List.range m).all (fun _ => true) = true := by rw [List.all_eq_true]; exact fun _ _ => rfl
section
variable {s : Shared} {h₀ : Heap} {L : Addr} {news : List (Addr × Obj)}
theorem Alike0.eqAt {A : Around} {v w : Value} (h : Alike0 v w) : EqAt A s v w true := by
  rcases h with ⟨z, t, u, rfl, rfl⟩ | ⟨x, t, u, rfl, rfl⟩ | rfl
  · have := (MeetsSeq.EqGives.int z z t u).at A s
    rwa [beq_self_eq_true] at this
  · have := (SeqRoads2.EqGives.str x x t u).at A s
    rwa [beq_self_eq_true] at this
  · exact EqAt.same _
theorem alike_eqAt (N : News h₀ L s.heap news) : ∀ {d : Nat} {A : Around} {v w : Value}, A.units + d < cLine → Alike news d v w → EqAt A s v w true
  | 0, _, _, _, _, h => Alike0.eqAt h
  | d + 1, A, v, w, hu, h => by
    rcases h with h | ⟨a, b, x, y, rfl, rfl, h3, h4⟩
    · exact h.eqAt
    · have hsz : x.size = y.size := by have := paired_len' h4; rwa [Array.length_toList, Array.length_toList] at this
      have he : ∀ j (h1 : j < x.size) (h2 : j < y.size), EqAt A.in1 s x[j] y[j] ((fun _ => true) j) := fun j h1 h2 => by
        have := paired_get h4 j (by rw [Array.length_toList]; exact h1) (by rw [Array.length_toList]; exact h2)
        rw [Array.getElem_toList, Array.getElem_toList] at this
        exact alike_eqAt N (A := A.in1) (by show A.units + 1 + d < cLine; omega) this
      by_cases e : a = b
      · subst e; exact EqAt.same _
      · refine EqAt.of_refs e ?_
        rcases h3 with ⟨k, j, m1, m2⟩ | ⟨m1, m2⟩
        · have := RcAt.lists (A := A) (s := s) (l := a) (b := b) (e := fun _ => true) ⟨_, (N _ m1).1, rfl, k, rfl⟩ ⟨_, (N _ m2).1, rfl, j, rfl⟩ hsz (by omega) he
          rwa [all_true] at this
        · have := RcAt.tuples (A := A) (s := s) (l := a) (b := b) (e := fun _ => true) (News.isTup N m1) (News.isTup N m2) (by omega) he
          rwa [all_true, hsz, beq_self_eq_true, Bool.and_true] at this
end
section
variable {prog : Program} {w : World} {A : Around} {E : Value → Shared → Prop} {s : Shared} {h₀ : Heap} {L a b : Addr} {news : List (Addr × Obj)} {x y : Array Value} {d : Nat} {Q : Value → Shared → Prop}
theorem eq_tup_alike (N : News h₀ L s.heap news) (m1 : (a, ({ cls := .type "tuple", data := .seq x } : Obj)) ∈ news) (m2 : (b, ({ cls := .type "tuple", data := .seq y } : Obj)) ∈ news) (h4 : Paired (Alike news d) x.toList y.toList) (hu : A.units + 64 < cLine) (hd : d < 60) (h : Q (.bool true) s) :
    wpAny (model prog w) A (compareOp .Eq (.ref a) (.ref b)) Q E s := by
  have hsz : x.size = y.size := by have := paired_len' h4; rwa [Array.length_toList, Array.length_toList] at this
  refine eq_tupleAt (e := fun _ => true) (News.isTup N m1) (News.isTup N m2) (by omega) (fun j h1 h2 => ?_) ?_
  · have := paired_get h4 j (by rw [Array.length_toList]; exact h1) (by rw [Array.length_toList]; exact h2)
    rw [Array.getElem_toList, Array.getElem_toList] at this
    exact alike_eqAt N (A := A.in1) (by show A.units + 1 + d < cLine; omega) this
  · rw [all_true, hsz, beq_self_eq_true, Bool.and_true]
    exact h
end
end Mine
namespace Mine
section
local macro_rules | `(tactic| k_room) => `(tactic| k_extra "k_room")
local macro_rules | `(tactic| k_mem) => `(tactic| k_extra "k_mem")
local macro_rules | `(tactic| k_all) => `(tactic| k_extra "k_all")
local macro_rules | `(tactic| walk_at $s:str) => `(tactic| k_extra $s)
local macro_rules | `(tactic| k_enter) => `(tactic| (walk_at "code_def"; k_whole; intro g' L' h' FG' F' N' B' X' T'; (try dsimp only); (try k_lift B'); (try k_fold)))
local macro_rules | `(tactic| k_enter) => `(tactic| (walk_at "code_defC"; k_whole; intro g' L' h' tk' cells' FG' F' N' Y' B' X' T' l1; k_cells Y'; (try simp only [List.cons_append, List.nil_append] at N'); (try dsimp only); (try k_lift B'); (try k_fold)))
local macro_rules | `(tactic| walk_at "enter_more") => `(tactic| (walk_at "kp_more"; k_whole; intro D' o' g' L' h' tk' l1 lo' hs' fs' FG' F' N' B' X' T'; (try dsimp only); (try k_lift B'); (try k_fold)))

section
theorem kw2 : True := by
  w_top off
  k_with_none
  k_with "k_room" => first | ((try simp only [depth_under_make, depth_under_kw, depth_in1, depth_deeper, depth_caller]); omega) | decide
  k_with "code_def" => (refine' code_def ?k1w2 ?k2w2 ?k3w2 ?k4w2 ?k5w2 ?kAw2 ?kFw2 ?kKw2 ?k6w2 ?k7w2 ?k8w2 ?k9w2 ?kBw2 ?_ ?c2w2 ?c3w2 ?c4w2 ?c5w2; (case k1w2 => k_asm); (case k2w2 => k_asm); (case k3w2 => k_asm); (case k4w2 => k_asm); (case k5w2 => k_asm); (case kAw2 => assumption); (case kFw2 => assumption); (case kKw2 => assumption);  (case k6w2 => k_is); (case k7w2 => k_is); (case k8w2 => k_room); (case k9w2 => first | exact BindsTo.of_eq rfl | exact binds_K (by k_in) rfl (by k_is) rfl rfl rfl | fail "k_enter: no rule for these arguments"); (case c5w2 => decide); (case kBw2 => exact locs rfl); (case c2w2 => exact rfl); (case c3w2 => exact rfl); (case c4w2 => exact rfl))
  k_with "code_defC" => (refine' code_defC ?k1w3 ?k2w3 ?k3w3 ?k4w3 ?k5w3 ?kAw3 ?kFw3 ?kKw3 ?k6w3 ?k7w3 ?k8w3 ?k9w3 ?kBw3 ?kDw3 ?_ ?c2w3 ?c3w3 ?c4w3; (case k1w3 => k_asm); (case k2w3 => k_asm); (case k3w3 => k_asm); (case k4w3 => k_asm); (case k5w3 => k_asm); (case kAw3 => assumption); (case kFw3 => assumption); (case kKw3 => assumption); (case k6w3 => k_is); (case k7w3 => k_is); (case k8w3 => k_room); (case k9w3 => first | exact BindsTo.of_eq rfl | exact binds_K (by k_in) rfl (by k_is) rfl rfl rfl | fail "k_enter: no rule for these arguments"); (case kBw3 => exact rfl); (case kDw3 => decide +kernel); (case c2w3 => exact rfl); (case c3w3 => exact rfl); (case c4w3 => exact rfl))
  k_with "k_mem" => first | assumption | exact List.Mem.head _ | (refine' List.Mem.tail _ ?_; k_mem)
  k_with "k_all" => exact all_ne_of_lt (by assumption) (by first | exact Nat.le_refl _ | exact Nat.le_succ _ | omega)
  k_with "call builtin:str.lower" => (refine PyProof.Rows.SCL.lower (by omega) ?_; intro _)
  k_with "eval ListComp" => refine hold_intro ?_
  k_with "eval Slice none none none" => (refine slice_K (by assumption) (by assumption) ?_; intro _ _ _ _; (try k_sweep))
  k_with "setItem ref ref ref" => refine hold_intro ?_
  k_with "exec Assign cons ListComp" => ((with_reducible show wpAny _ _ (exec (Stmt.Assign [Expr.Subscript _ _ _] _ _) _) _ _ _); refine wpAny_Assign_Subscript ?_)
  k_with "call builtin:len" => (refine' len_L ?Nw11 ?hlw11 ?hsw11 ?_; (case Nw11 => k_asm); (case hlw11 => k_mem); (case hsw11 => omega); intro _ _)
  k_with "subscriptTail Name Slice ref ref" => ((with_reducible show wpAny _ _ (subscriptTail _ _ (Value.ref _) (Value.ref _)) _ _ _); refine' copy_L ?Fw12 ?Nw12 ?hlw12 ?hsw12 ?hzw12 ?_ ?hew12; (case Fw12 => k_asm); (case Nw12 => k_asm); (case hlw12 => k_mem); (case hsw12 => exact List.Mem.head _); (case hzw12 => rw [sizeLine_eq]; omega); (case hew12 => with_unfolding_all rfl); intro _ _ _ _ _; (try k_sweep))
  k_with "kp_more" => (refine' kp_more ?k1w13 ?k2w13 ?k3w13 ?k4w13 ?k5w13 ?kAw13 ?kFw13 ?kKw13 ?k6w13 ?k7w13 ?k8w13 ?kXw13 ?kMw13 ?kNw13 ?kDw13 ?kRw13 ?kPw13 ?kTw13 ?kBw13 ?_ ?c2w13 ?c3w13 ?c4w13 ?c5w13; (case kAw13 => assumption); (case kFw13 => assumption); (case kKw13 => assumption); (case k1w13 => k_asm); (case k2w13 => k_asm); (case k3w13 => k_asm); (case k4w13 => k_asm); (case k5w13 => k_asm); (case k6w13 => k_is); (case k7w13 => k_is); (case k8w13 => k_room); (case kXw13 => kp_lit); (case kMw13 => exact rfl); (case kNw13 => exact rfl); (case kDw13 => kp_flats); (case kRw13 => exact rfl); (case kPw13 => exact rfl); (case kTw13 => exact fun _ => rfl); (case kBw13 => exact fun _ => locs rfl); (case c5w13 => decide); (case c2w13 => exact rfl); (case c3w13 => exact rfl); (case c4w13 => exact rfl))
  k_with "exec For Tuple Name" => refine hold_intro ?_
  k_with "exec For Tuple Call" => refine hold_intro ?_
  k_with "exec For Tuple Call cons nil" => refine hold_intro ?_
  k_with "exec For Tuple Name cons nil" => refine hold_intro ?_
  k_with "call builtin:list.append" => (refine' append_L ?Fw18 ?Nw18 ?hlw18 ?_ ?hzw18; (case Fw18 => k_asm); (case Nw18 => k_asm); (case hlw18 => k_mem); (case hzw18 => (rw [sizeLine_eq]; omega)); intro _ _ _)
  trivial
abbrev pg : Program := PySem.Challenge.rw_un0065_02.row.prog
theorem patN {w : World} {h : Heap} (X : (hd.heap_39 w.params).In h) : PatAt h 48 codeN := by
  have h1 : h.get? 48 = _ := X 48 _ (by k_is)
  have h2 : h.get? 47 = _ := X 47 _ (by k_is)
  exact ⟨⟨_, _, 47, _, 0, h1, h2, by decide +kernel⟩⟩
theorem patV {w : World} {h : Heap} (X : (hd.heap_39 w.params).In h) : PatAt h 53 codeV := by
  have h1 : h.get? 53 = _ := X 53 _ (by k_is)
  have h2 : h.get? 52 = _ := X 52 _ (by k_is)
  exact ⟨⟨_, _, 52, _, 0, h1, h2, by decide +kernel⟩⟩
/-- where a call stands -/
structure Sit (w : World) (A A₀ : Around) (base h₀ : Heap) (env : Env) (outer : List Env) (L : Addr) (m : Str → Option Value) (p : Program) (loose : List Str) (mean : ExcName → Option Value) (mg mb : Str → Option Value) (news : List (Addr × Obj)) (h : Heap) (d : Nat) : Prop where
  KX : (hd.heap_39 w.params).In h₀
  T : Top p loose mean mg mb h₀
  B : Below A₀ base outer h₀
  F : Fr h₀ L h m
  N : News h₀ L h news
  hA : A.frames = some (env :: outer)
  hf : env.frame = some L
  hke : env.scope.kind = .function
  hroom : A.depth + d < recursionLimit
  hh : A.handled = none
/-- a table of the text's class -/
structure Tab (w : World) (news : List (Addr × Obj)) (x l : Addr) : Prop where
  at_ : ∃ d tl, (x, instObj 184 d) ∈ news ∧ (d, dictOf [⟨PyData.keyHash w.params (Str.ofString "_headers"), .str (Str.ofString "_headers") tl, .ref l⟩] 1) ∈ news
theorem Tab.mono {w : World} {news news' : List (Addr × Obj)} {x l : Addr} (T : Tab w news x l) (k : ∀ p ∈ news, p ∈ news') : Tab w news' x l := by
  obtain ⟨d, tl, a, b⟩ := T.at_
  exact ⟨d, tl, k _ a, k _ b⟩
theorem Tab.upd {w : World} {h₀ h : Heap} {L : Addr} {news : List (Addr × Obj)} {x l l' : Addr} {o o' : Obj} (T : Tab w news x l) (N : News h₀ L h news) (hl : (l', o) ∈ news) (ho : o.cls = .type "list") : Tab w (upd l' o' news) x l := by
  obtain ⟨d, tl, a, b⟩ := T.at_
  refine ⟨d, tl, mem_upd a (news_ne N a hl ?_), mem_upd b (news_ne N b hl ?_)⟩
  · rw [ho]; show Value.ref 184 ≠ Value.type "list"; decide
  · rw [ho]; show Value.type "dict" ≠ Value.type "list"; decide
section
variable {w : World} {A : Around} {E : Value → Shared → Prop} {s : Shared} {h₀ : Heap} {L : Addr} {m : Str → Option Value}
theorem gm_N {pl : Sem Bool} {Q : Value × List Value → Shared → Prop} (F : Fr h₀ L s.heap m) (X : (hd.heap_39 w.params).In h₀) (h : Q (.builtin "re.Pattern.search", [.ref 48]) s) :
    wpAny (model pg w) A (getMethod (.ref 48) (Str.ofString "search") pl) Q E s := getMethod_search (patN (X.keeps F.keep)) h
theorem gm_V {pl : Sem Bool} {Q : Value × List Value → Shared → Prop} (F : Fr h₀ L s.heap m) (X : (hd.heap_39 w.params).In h₀) (h : Q (.builtin "re.Pattern.search", [.ref 53]) s) :
    wpAny (model pg w) A (getMethod (.ref 53) (Str.ofString "search") pl) Q E s := getMethod_search (patV (X.keeps F.keep)) h
theorem se_N {x : Str} {t : Tok} {Q : Value → Shared → Prop} (F : Fr h₀ L s.heap m) (X : (hd.heap_39 w.params).In h₀) (hx : x.length ≤ 2 ^ 24) (hc : ctlIn isCtlN x.cps = false) (h : Q .none s) :
    wpAny (model pg w) A (call (.builtin "re.Pattern.search") [.ref 48, .str x t]) Q E s := search_call (patN (X.keeps F.keep)) hx (outN _) (fun _ => h) (fun e => by rw [hc] at e; cases e)
theorem se_V {x : Str} {t : Tok} {Q : Value → Shared → Prop} (F : Fr h₀ L s.heap m) (X : (hd.heap_39 w.params).In h₀) (hx : x.length ≤ 2 ^ 24) (hc : ctlIn isCtlV x.cps = false) (h : Q .none s) :
    wpAny (model pg w) A (call (.builtin "re.Pattern.search") [.ref 53, .str x t]) Q E s := search_call (patV (X.keeps F.keep)) hx (outV _) (fun _ => h) (fun e => by rw [hc] at e; cases e)
end
theorem kw1 : True := by
  k_with "getMethod ref" => ((with_reducible show wpAny _ _ (getMethod (Value.ref 48) _ _) _ _ _); refine gm_N (by assumption) (by assumption) ?_)
  k_with "getMethod ref" => ((with_reducible show wpAny _ _ (getMethod (Value.ref 53) _ _) _ _ _); refine gm_V (by assumption) (by assumption) ?_)
  k_with "call builtin:re.Pattern.search" => (refine se_N (by assumption) (by assumption) (by assumption) (by assumption) ?_)
  k_with "call builtin:re.Pattern.search" => (refine se_V (by assumption) (by assumption) (by assumption) (by assumption) ?_)
  trivial
section
variable {w : World} {A A₀ : Around} {E : Value → Shared → Prop} {s : Shared} {h₀ base : Heap} {env : Env} {outer : List Env} {L x : Addr} {m mg mb : Str → Option Value} {news : List (Addr × Obj)}
   {p : Program} {loose : List Str} {mean : ExcName → Option Value} {Q : Value → Shared → Prop} {nm : Str} {tk : Tok}
theorem conv_name (S : Sit w A A₀ base h₀ env outer L m p loose mean mg mb news s.heap 5)
   (hlen : nm.length ≤ 2 ^ 24) (hclean : ctlIn isCtlN nm.cps = false)
   (h : ∀ h' t', Fr h₀ L h' m → News h₀ L h' news → Q (.str nm tk) {s with heap := h', toks := t'}) :
   wpAny (model pg w) A (call (.ref 83) [.ref x, .str nm tk] [(Str.ofString "name", .bool true)]) Q E s := by
  obtain ⟨KX, T, B, F, N, hA, hf, hke, hroom, hh⟩ := S
  refine wpAny_call ?_
  k_enter
  k_steps
  exact h _ _ (by assumption) (by assumption)
theorem conv_val (S : Sit w A A₀ base h₀ env outer L m p loose mean mg mb news s.heap 5)
   (hlen : nm.length ≤ 2 ^ 24) (hclean : ctlIn isCtlV nm.cps = false)
   (h : ∀ h' t', Fr h₀ L h' m → News h₀ L h' news → Q (.str nm tk) {s with heap := h', toks := t'}) :
   wpAny (model pg w) A (call (.ref 83) [.ref x, .str nm tk] [(Str.ofString "name", .bool false)]) Q E s := by
  obtain ⟨KX, T, B, F, N, hA, hf, hke, hroom, hh⟩ := S
  refine wpAny_call ?_
  k_enter
  k_steps
  exact h _ _ (by assumption) (by assumption)
end
end
section
local macro_rules | `(tactic| walk_at "pad") => `(tactic| fail)
theorem kw4 : True := by
  w_top off
  k_with_none
  k_with "k_room" => first | ((try simp only [depth_under_make, depth_under_kw, depth_in1, depth_deeper, depth_caller]); omega) | decide
  k_with "code_def" => (refine' code_def ?k1w2 ?k2w2 ?k3w2 ?k4w2 ?k5w2 ?kAw2 ?kFw2 ?kKw2 ?k6w2 ?k7w2 ?k8w2 ?k9w2 ?kBw2 ?_ ?c2w2 ?c3w2 ?c4w2 ?c5w2; (case k1w2 => k_asm); (case k2w2 => k_asm); (case k3w2 => k_asm); (case k4w2 => k_asm); (case k5w2 => k_asm); (case kAw2 => assumption); (case kFw2 => assumption); (case kKw2 => assumption);  (case k6w2 => k_is); (case k7w2 => k_is); (case k8w2 => k_room); (case k9w2 => first | exact BindsTo.of_eq rfl | exact binds_K (by k_in) rfl (by k_is) rfl rfl rfl | fail "k_enter: no rule for these arguments"); (case c5w2 => decide); (case kBw2 => exact locs rfl); (case c2w2 => exact rfl); (case c3w2 => exact rfl); (case c4w2 => exact rfl))
  k_with "code_defC" => (refine' code_defC ?k1w3 ?k2w3 ?k3w3 ?k4w3 ?k5w3 ?kAw3 ?kFw3 ?kKw3 ?k6w3 ?k7w3 ?k8w3 ?k9w3 ?kBw3 ?kDw3 ?_ ?c2w3 ?c3w3 ?c4w3; (case k1w3 => k_asm); (case k2w3 => k_asm); (case k3w3 => k_asm); (case k4w3 => k_asm); (case k5w3 => k_asm); (case kAw3 => assumption); (case kFw3 => assumption); (case kKw3 => assumption); (case k6w3 => k_is); (case k7w3 => k_is); (case k8w3 => k_room); (case k9w3 => first | exact BindsTo.of_eq rfl | exact binds_K (by k_in) rfl (by k_is) rfl rfl rfl | fail "k_enter: no rule for these arguments"); (case kBw3 => exact rfl); (case kDw3 => decide +kernel); (case c2w3 => exact rfl); (case c3w3 => exact rfl); (case c4w3 => exact rfl))
  k_with "k_mem" => first | assumption | exact List.Mem.head _ | (refine' List.Mem.tail _ ?_; k_mem)
  k_with "k_all" => exact all_ne_of_lt (by assumption) (by first | exact Nat.le_refl _ | exact Nat.le_succ _ | omega)
  k_with "call builtin:str.lower" => (refine PyProof.Rows.SCL.lower (by omega) ?_; intro _)
  k_with "eval ListComp" => refine hold_intro ?_
  k_with "eval Slice none none none" => (refine slice_K (by assumption) (by assumption) ?_; intro _ _ _ _; (try k_sweep))
  k_with "setItem ref ref ref" => refine hold_intro ?_
  k_with "exec Assign cons ListComp" => ((with_reducible show wpAny _ _ (exec (Stmt.Assign [Expr.Subscript _ _ _] _ _) _) _ _ _); refine wpAny_Assign_Subscript ?_)
  k_with "call builtin:len" => (refine' len_L ?Nw11 ?hlw11 ?hsw11 ?_; (case Nw11 => k_asm); (case hlw11 => k_mem); (case hsw11 => omega); intro _ _)
  k_with "subscriptTail Name Slice ref ref" => ((with_reducible show wpAny _ _ (subscriptTail _ _ (Value.ref _) (Value.ref _)) _ _ _); refine' copy_L ?Fw12 ?Nw12 ?hlw12 ?hsw12 ?hzw12 ?_ ?hew12; (case Fw12 => k_asm); (case Nw12 => k_asm); (case hlw12 => k_mem); (case hsw12 => exact List.Mem.head _); (case hzw12 => rw [sizeLine_eq]; omega); (case hew12 => with_unfolding_all rfl); intro _ _ _ _ _; (try k_sweep))
  k_with "kp_more" => (refine' kp_more ?k1w13 ?k2w13 ?k3w13 ?k4w13 ?k5w13 ?kAw13 ?kFw13 ?kKw13 ?k6w13 ?k7w13 ?k8w13 ?kXw13 ?kMw13 ?kNw13 ?kDw13 ?kRw13 ?kPw13 ?kTw13 ?kBw13 ?_ ?c2w13 ?c3w13 ?c4w13 ?c5w13; (case kAw13 => assumption); (case kFw13 => assumption); (case kKw13 => assumption); (case k1w13 => k_asm); (case k2w13 => k_asm); (case k3w13 => k_asm); (case k4w13 => k_asm); (case k5w13 => k_asm); (case k6w13 => k_is); (case k7w13 => k_is); (case k8w13 => k_room); (case kXw13 => kp_lit); (case kMw13 => exact rfl); (case kNw13 => exact rfl); (case kDw13 => kp_flats); (case kRw13 => exact rfl); (case kPw13 => exact rfl); (case kTw13 => exact fun _ => rfl); (case kBw13 => exact fun _ => locs rfl); (case c5w13 => decide); (case c2w13 => exact rfl); (case c3w13 => exact rfl); (case c4w13 => exact rfl))
  k_with "exec For Tuple Name" => refine hold_intro ?_
  k_with "exec For Tuple Call" => refine hold_intro ?_
  k_with "exec For Tuple Call cons nil" => refine hold_intro ?_
  k_with "exec For Tuple Name cons nil" => refine hold_intro ?_
  k_with "call builtin:list.append" => (refine' append_L ?Fw18 ?Nw18 ?hlw18 ?_ ?hzw18; (case Fw18 => k_asm); (case Nw18 => k_asm); (case hlw18 => k_mem); (case hzw18 => (rw [sizeLine_eq]; omega)); intro _ _ _)
  trivial
theorem matched_of {h₀ h : Heap} {L D : Addr} {fs : Array Value} {news : List (Addr × Obj)} (N : News h₀ L h news) (hm : (D, matchObj fs) ∈ news) : h.get? D = some (matchObj fs) := (N _ hm).1
section
variable {w : World} {A : Around} {E : Value → Shared → Prop} {s : Shared} {h₀ : Heap} {L : Addr} {m : Str → Option Value} {news : List (Addr × Obj)}
theorem two_pushed {o o' : Obj} (F : Fr h₀ L s.heap m) (N : News h₀ L s.heap news) (he : o'.isFreed = false) : Fr h₀ L ((s.heap.push o).push o') m ∧ News h₀ L ((s.heap.push o).push o') ((s.heap.objs.size + 1, o') :: news) := by
  have F1 := F.push o
  have N1 : News h₀ L (s.heap.push o) news := news_keep N fun b o' e => Heap.get?_push_of_some _ e
  have e1 : (s.heap.push o).objs.size = s.heap.objs.size + 1 := Heap.size_push ..
  refine ⟨F1.push o', fun q hq => ?_⟩
  rcases List.mem_cons.mp hq with rfl | hq
  · refine ⟨?_, ?_, ?_⟩
    · show ((s.heap.push o).push o').get? (s.heap.objs.size + 1) = some o'
      rw [← e1]
      exact Heap.get?_push_size _ he
    · show s.heap.objs.size + 1 ≠ L
      rw [← e1]
      exact Nat.ne_of_gt F1.ns.lt
    · show h₀.get? (s.heap.objs.size + 1) = none
      rw [← e1]
      exact next_is_new F1
  · exact ⟨Heap.get?_push_of_some _ (N1 q hq).1, (N1 q hq).2⟩
theorem se_N1 {x : Str} {t : Tok} {Q : Value → Shared → Prop} (F : Fr h₀ L s.heap m) (N : News h₀ L s.heap news) (X : (hd.heap_39 w.params).In h₀) (hx : x.length ≤ 2 ^ 24) (hc : ctlIn isCtlN x.cps = true)
    (h : ∀ D fs h', Fr h₀ L h' m → News h₀ L h' ((D, matchObj fs) :: news) → Q (.ref D) { s with heap := h' }) :
    wpAny (model pg w) A (call (.builtin "re.Pattern.search") [.ref 48, .str x t]) Q E s := search_call (patN (X.keeps F.keep)) hx (outN _) (fun e => by rw [hc] at e; cases e) (fun _ vs fs => by
      obtain ⟨F1, N1⟩ := two_pushed (o := tupObj vs) (o' := matchObj fs) F N rfl
      exact h _ fs _ F1 N1)
theorem se_V1 {x : Str} {t : Tok} {Q : Value → Shared → Prop} (F : Fr h₀ L s.heap m) (N : News h₀ L s.heap news) (X : (hd.heap_39 w.params).In h₀) (hx : x.length ≤ 2 ^ 24) (hc : ctlIn isCtlV x.cps = true)
    (h : ∀ D fs h', Fr h₀ L h' m → News h₀ L h' ((D, matchObj fs) :: news) → Q (.ref D) { s with heap := h' }) :
    wpAny (model pg w) A (call (.builtin "re.Pattern.search") [.ref 53, .str x t]) Q E s := search_call (patV (X.keeps F.keep)) hx (outV _) (fun e => by rw [hc] at e; cases e) (fun _ vs fs => by
      obtain ⟨F1, N1⟩ := two_pushed (o := tupObj vs) (o' := matchObj fs) F N rfl
      exact h _ fs _ F1 N1)
end
theorem kw3 : True := by
  k_with "getMethod ref" => ((with_reducible show wpAny _ _ (getMethod (Value.ref 48) _ _) _ _ _); refine gm_N (by assumption) (by assumption) ?_)
  k_with "getMethod ref" => ((with_reducible show wpAny _ _ (getMethod (Value.ref 53) _ _) _ _ _); refine gm_V (by assumption) (by assumption) ?_)
  k_with "call builtin:re.Pattern.search" => (refine' se_N1 ?Fw48 ?Nw48 ?Xw48 ?h1w48 ?h2w48 ?_; (case Fw48 => k_asm); (case Nw48 => k_asm); (case Xw48 => k_asm); (case h1w48 => with_reducible assumption); (case h2w48 => with_reducible assumption); intro _ _ _ _ _)
  k_with "call builtin:re.Pattern.search" => (refine' se_V1 ?Fw49 ?Nw49 ?Xw49 ?h1w49 ?h2w49 ?_; (case Fw49 => k_asm); (case Nw49 => k_asm); (case Xw49 => k_asm); (case h1w49 => with_reducible assumption); (case h2w49 => with_reducible assumption); intro _ _ _ _ _)
  k_with "truthy ref" => (refine truthy_match (matched_of (by k_asm) (by k_mem)) ?_)
  k_with "call builtin:str.format" => (refine' got_format ?hyw51 ?_; (case hyw51 => with_reducible assumption); intro _ _)
  k_with "leaving ref" => (k_here; (refine' leave_raiseS ?k1w52 ?k0w52 ?k2w52 ?k3w52 ?_; (case k0w52 => first | assumption | exact Heap.MadeExc.of (by assumption)); (case k2w52 => assumption); (case k1w52 => assumption); (case k3w52 => k_asm); k_whole; intro _ _ S' R' U'; (try dsimp only at S' R' U' ⊢); (revert S' R' U'; intro _ _ _)))
  k_with "exec Raise some none" => ((with_reducible show wpAny _ _ (exec (Stmt.Raise (some (Expr.Call (Expr.Name (Str.ofString "ValueError") _) _ [] _)) none _) _) _ _ _); (refine' Raise_madeB PySem.F.excCall_ValueError PySem.F.excRaise_ValueError ?hhw53 ?_; (case hhw53 => first | with_reducible assumption | exact handled_deeper (by with_reducible assumption))); (refine' nameX_B ?Fw53 ?Xw53 ?Tw53 ?ew53 PyProof.Rows.Boot.«ValueError» ?nw53 ⟨rfl, ?_⟩; (case Fw53 => k_asm); (case Xw53 => k_asm); (case Tw53 => k_asm); (case ew53 => k_is); (case nw53 => decide); k_whole))
  k_with "exec Raise some none" => ((with_reducible show wpAny _ _ (exec (Stmt.Raise (some (Expr.Call (Expr.Name (Str.ofString "AssertionError") _) _ [] _)) none _) _) _ _ _); (refine' Raise_madeB PySem.F.excCall_AssertionError PySem.F.excRaise_AssertionError ?hhw54 ?_; (case hhw54 => first | with_reducible assumption | exact handled_deeper (by with_reducible assumption))); (refine' nameX_B ?Fw54 ?Xw54 ?Tw54 ?ew54 PyProof.Rows.Boot.«AssertionError» ?nw54 ⟨rfl, ?_⟩; (case Fw54 => k_asm); (case Xw54 => k_asm); (case Tw54 => k_asm); (case ew54 => k_is); (case nw54 => decide); k_whole))
  trivial
section
variable {w : World} {A A₀ : Around} {E : Value → Shared → Prop} {s : Shared} {h₀ base : Heap} {env : Env} {outer : List Env} {L x : Addr} {m mg mb : Str → Option Value} {news : List (Addr × Obj)}
   {p : Program} {loose : List Str} {mean : ExcName → Option Value} {Q : Value → Shared → Prop} {nm : Str} {tk : Tok}
theorem conv_name_bad (S : Sit w A A₀ base h₀ env outer L m p loose mean mg mb news s.heap 5)
   (hlen : nm.length ≤ 2 ^ 24) (hbad : ctlIn isCtlN nm.cps = true)
   (h : ∀ e t g h' t' news' tk', Fr h₀ L g m → RaisedS base g (env :: outer) e (.type "ValueError") t [.str (Str.ofString "Control characters not allowed in headers") tk'] news' h' → g.UpToSlots h' → (∀ q ∈ news, q ∈ news') → E (.ref e) {s with heap := h', toks := t'}) :
   wpAny (model pg w) A (call (.ref 83) [.ref x, .str nm tk] [(Str.ofString "name", .bool true)]) Q E s := by
  obtain ⟨KX, T, B, F, N, hA, hf, hke, hroom, hh⟩ := S
  refine wpAny_call ?_
  k_enter
  k_steps
  exact h _ _ _ _ _ _ _ (by assumption) (by assumption) (by assumption) (fun q hq => .tail _ hq)
theorem conv_val_bad (S : Sit w A A₀ base h₀ env outer L m p loose mean mg mb news s.heap 5)
   (hlen : nm.length ≤ 2 ^ 24) (hbad : ctlIn isCtlV nm.cps = true)
   (h : ∀ e t g h' t' news' tk', Fr h₀ L g m → RaisedS base g (env :: outer) e (.type "ValueError") t [.str (Str.ofString "Control characters not allowed in headers") tk'] news' h' → g.UpToSlots h' → (∀ q ∈ news, q ∈ news') → E (.ref e) {s with heap := h', toks := t'}) :
   wpAny (model pg w) A (call (.ref 83) [.ref x, .str nm tk] [(Str.ofString "name", .bool false)]) Q E s := by
  obtain ⟨KX, T, B, F, N, hA, hf, hke, hroom, hh⟩ := S
  refine wpAny_call ?_
  k_enter
  k_steps
  exact h _ _ _ _ _ _ _ (by assumption) (by assumption) (by assumption) (fun q hq => .tail _ hq)
theorem conv_int_bad {z : Int} {b : Bool} (S : Sit w A A₀ base h₀ env outer L m p loose mean mg mb news s.heap 5) (hz0 : 0 ≤ z) (hz1 : z < 12) (hy : (Str.ofString (toString z)).length ≤ 100000)
   (h : ∀ e t g h' t' news' tk', Fr h₀ L g m → RaisedS base g (env :: outer) e (.type "AssertionError") t [.str ((Str.ofString "Header names/values must be of type str (got " ++ Str.ofString (toString z)) ++ Str.ofString ")") tk'] news' h' → g.UpToSlots h' → (∀ q ∈ news, q ∈ news') → E (.ref e) {s with heap := h', toks := t'}) :
   wpAny (model pg w) A (call (.ref 83) [.ref x, .int z tk] [(Str.ofString "name", .bool b)]) Q E s := by
  obtain ⟨KX, T, B, F, N, hA, hf, hke, hroom, hh⟩ := S
  refine wpAny_call ?_
  k_enter
  k_steps
  exact h _ _ _ _ _ _ _ (by assumption) (by assumption) (by assumption) (fun q hq => by first | assumption | exact .tail _ hq)
end
end
section

section
theorem kw5 : True := by
  w_top off
  k_with_none
  k_with "k_room" => first | ((try simp only [depth_under_make, depth_under_kw, depth_in1, depth_deeper, depth_caller]); omega) | decide
  k_with "code_def" => (refine' code_def ?k1w2 ?k2w2 ?k3w2 ?k4w2 ?k5w2 ?kAw2 ?kFw2 ?kKw2 ?k6w2 ?k7w2 ?k8w2 ?k9w2 ?kBw2 ?_ ?c2w2 ?c3w2 ?c4w2 ?c5w2; (case k1w2 => k_asm); (case k2w2 => k_asm); (case k3w2 => k_asm); (case k4w2 => k_asm); (case k5w2 => k_asm); (case kAw2 => assumption); (case kFw2 => assumption); (case kKw2 => assumption);  (case k6w2 => k_is); (case k7w2 => k_is); (case k8w2 => k_room); (case k9w2 => first | exact BindsTo.of_eq rfl | exact binds_K (by k_in) rfl (by k_is) rfl rfl rfl | fail "k_enter: no rule for these arguments"); (case c5w2 => decide); (case kBw2 => exact locs rfl); (case c2w2 => exact rfl); (case c3w2 => exact rfl); (case c4w2 => exact rfl))
  k_with "code_defC" => (refine' code_defC ?k1w3 ?k2w3 ?k3w3 ?k4w3 ?k5w3 ?kAw3 ?kFw3 ?kKw3 ?k6w3 ?k7w3 ?k8w3 ?k9w3 ?kBw3 ?kDw3 ?_ ?c2w3 ?c3w3 ?c4w3; (case k1w3 => k_asm); (case k2w3 => k_asm); (case k3w3 => k_asm); (case k4w3 => k_asm); (case k5w3 => k_asm); (case kAw3 => assumption); (case kFw3 => assumption); (case kKw3 => assumption); (case k6w3 => k_is); (case k7w3 => k_is); (case k8w3 => k_room); (case k9w3 => first | exact BindsTo.of_eq rfl | exact binds_K (by k_in) rfl (by k_is) rfl rfl rfl | fail "k_enter: no rule for these arguments"); (case kBw3 => exact rfl); (case kDw3 => decide +kernel); (case c2w3 => exact rfl); (case c3w3 => exact rfl); (case c4w3 => exact rfl))
  k_with "k_mem" => first | assumption | exact List.Mem.head _ | (refine' List.Mem.tail _ ?_; k_mem)
  k_with "k_all" => exact all_ne_of_lt (by assumption) (by first | exact Nat.le_refl _ | exact Nat.le_succ _ | omega)
  k_with "call builtin:str.lower" => (refine PyProof.Rows.SCL.lower (by omega) ?_; intro _)
  k_with "eval ListComp" => refine hold_intro ?_
  k_with "eval Slice none none none" => (refine slice_K (by assumption) (by assumption) ?_; intro _ _ _ _; (try k_sweep))
  k_with "setItem ref ref ref" => refine hold_intro ?_
  k_with "exec Assign cons ListComp" => ((with_reducible show wpAny _ _ (exec (Stmt.Assign [Expr.Subscript _ _ _] _ _) _) _ _ _); refine wpAny_Assign_Subscript ?_)
  k_with "call builtin:len" => (refine' len_L ?Nw11 ?hlw11 ?hsw11 ?_; (case Nw11 => k_asm); (case hlw11 => k_mem); (case hsw11 => omega); intro _ _)
  k_with "subscriptTail Name Slice ref ref" => ((with_reducible show wpAny _ _ (subscriptTail _ _ (Value.ref _) (Value.ref _)) _ _ _); refine' copy_L ?Fw12 ?Nw12 ?hlw12 ?hsw12 ?hzw12 ?_ ?hew12; (case Fw12 => k_asm); (case Nw12 => k_asm); (case hlw12 => k_mem); (case hsw12 => exact List.Mem.head _); (case hzw12 => rw [sizeLine_eq]; omega); (case hew12 => with_unfolding_all rfl); intro _ _ _ _ _; (try k_sweep))
  k_with "kp_more" => (refine' kp_more ?k1w13 ?k2w13 ?k3w13 ?k4w13 ?k5w13 ?kAw13 ?kFw13 ?kKw13 ?k6w13 ?k7w13 ?k8w13 ?kXw13 ?kMw13 ?kNw13 ?kDw13 ?kRw13 ?kPw13 ?kTw13 ?kBw13 ?_ ?c2w13 ?c3w13 ?c4w13 ?c5w13; (case kAw13 => assumption); (case kFw13 => assumption); (case kKw13 => assumption); (case k1w13 => k_asm); (case k2w13 => k_asm); (case k3w13 => k_asm); (case k4w13 => k_asm); (case k5w13 => k_asm); (case k6w13 => k_is); (case k7w13 => k_is); (case k8w13 => k_room); (case kXw13 => kp_lit); (case kMw13 => exact rfl); (case kNw13 => exact rfl); (case kDw13 => kp_flats); (case kRw13 => exact rfl); (case kPw13 => exact rfl); (case kTw13 => exact fun _ => rfl); (case kBw13 => exact fun _ => locs rfl); (case c5w13 => decide); (case c2w13 => exact rfl); (case c3w13 => exact rfl); (case c4w13 => exact rfl))
  k_with "exec For Tuple Name" => refine hold_intro ?_
  k_with "exec For Tuple Call" => refine hold_intro ?_
  k_with "exec For Tuple Call cons nil" => refine hold_intro ?_
  k_with "exec For Tuple Name cons nil" => refine hold_intro ?_
  k_with "call builtin:list.append" => (refine' append_L ?Fw18 ?Nw18 ?hlw18 ?_ ?hzw18; (case Fw18 => k_asm); (case Nw18 => k_asm); (case hlw18 => k_mem); (case hzw18 => (rw [sizeLine_eq]; omega)); intro _ _ _)
  k_with "mk_sit" => (refine' Sit.mk ?KXw19 ?Tw19 ?Bw19 ?Fw19 ?Nw19 ?hAw19 ?hfw19 ?hkew19 ?hroomw19 ?hhw19; (case KXw19 => k_asm); (case Tw19 => k_asm); (case Bw19 => k_asm); (case Fw19 => k_asm); (case Nw19 => k_asm); (case hAw19 => first | with_reducible assumption | exact Around.frames_deeper (Below.stack (by with_reducible assumption)) | rfl); (case hfw19 => first | with_reducible assumption | rfl); (case hkew19 => first | with_reducible assumption | rfl); (case hroomw19 => k_room); (case hhw19 => first | with_reducible assumption | exact handled_deeper (by with_reducible assumption) | assumption | rfl))
  k_with "call ref" => ((with_reducible show wpAny _ _ (call (Value.ref 83) [_, Value.str _ _] (List.zip _ [Value.bool true])) _ _ _); k_dflt (refine' conv_name ?Sw20 ?kaw20 ?kbw20 ?_; (case Sw20 => walk_at "mk_sit"); (case kaw20 => k_asm); (case kbw20 => k_asm); k_whole); intro _ _ _ _)
  k_with "call ref" => ((with_reducible show wpAny _ _ (call (Value.ref 83) [_, Value.str _ _] (List.zip _ [Value.bool false])) _ _ _); k_dflt (refine' conv_val ?Sw21 ?kaw21 ?kbw21 ?_; (case Sw21 => walk_at "mk_sit"); (case kaw21 => k_asm); (case kbw21 => k_asm); k_whole); intro _ _ _ _)
  trivial
section
variable {w : World} {A A₀ : Around} {E : Value → Shared → Prop} {s : Shared} {h₀ base : Heap} {env : Env} {outer : List Env} {L x l : Addr} {m mg mb : Str → Option Value} {news : List (Addr × Obj)}
   {p : Program} {loose : List Str} {mean : ExcName → Option Value} {Q : Value → Shared → Prop} {nm : Str} {tk : Tok} {its : Array Value} {n : Nat} {ps : List (Str × Value)}
theorem del_spec (S : Sit w A A₀ base h₀ env outer L m p loose mean mg mb news s.heap 10) (hT : Tab w news x l) (hl : (l, listOf its n) ∈ news) (hsz : its.size ≤ 1000) (P : PairsN news its.toList ps)
   (hsm : nm.length ≤ 1000) (hclean : ctlIn isCtlN (Txt.lower nm).cps = false)
   (h : ∀ h' t' ys n', Fr h₀ L h' m → News h₀ L h' (upd l (listOf ys n') news) → PairsN (upd l (listOf ys n') news) ys.toList (ps.filter fun q => !(Txt.lower q.1 == Txt.lower nm)) → ys.size ≤ its.size → Q .none {s with heap := h', toks := t'}) :
   wpAny (model pg w) A (call (.ref 102) [.ref x, .str nm tk]) Q E s := by
  obtain ⟨KX, T, B, F, N, hA, hf, hke, hroom, hh⟩ := S
  obtain ⟨d, tl, hx, hdd⟩ := hT.at_
  have hlen : (Txt.lower nm).length ≤ 2 ^ 24 := by have := len_lower nm; omega
  refine wpAny_call ?_
  k_enter
  k_steps
  refine hold_elim ?_
  refine' ListComp_del (l := l) (its := its) (n := n) (ps := ps) (key := Txt.lower nm) ?hh ?F ?N ?hl ?hsz P ?hn0 ?hcn ?hoc ?hclos ?hcell ?hkind ?hnames ?hx ?hk ?hv ?hn ?hcl ?hcall ?hs ?hiter ?hQ
  case F => k_asm
  case N => k_asm
  case hl => k_mem
  case hsz => exact Nat.le_trans hsz (by decide)
  case hclos => with_unfolding_all rfl
  case hcell => decide
  case hkind => rfl
  case hnames => decide
  case hx => rfl
  case hk => exact fun _ => rfl
  case hv => exact fun _ => rfl
  case hn => exact fun _ => rfl
  case hcl => rfl
  case hcall => exact fun _ => rfl
  case hs => exact fun _ => rfl
  case hh => exact hh
  case hn0 => exact fun p hp => List.mem_cons_of_mem _ hp
  case hcn => exact List.mem_cons_self
  case hoc => assumption
  case hiter =>
    intro Q' hQ'
    k_steps
    exact hQ' _
  case hQ =>
    intro D h' tk k ys F' N' hne P' hsz'
    k_steps
    refine hold_elim ?_
    refine' setAll_L (l := l) (D := D) ?F ?N ?hl ?hD ?hs ?hlD ?hsz ?h
    case F => k_asm
    case N => k_asm
    case hl => k_mem
    case hD => k_mem
    case hs => exact ⟨_, (News.get (by assumption) (List.mem_cons_self)), rfl, rfl⟩
    case hlD => exact hne _ (List.mem_cons_of_mem _ hl)
    case hsz => rw [sizeLine_eq]; omega
    case h =>
      intro h' n' F' N'
      k_steps
      refine h _ _ ys n' (by assumption) (news_mono (by assumption) fun p hp => upd_cons (upd_cons (upd_cons hp))) (P'.upd N hl (by show Value.type "list" ≠ Value.type "tuple"; decide)) hsz'
end
end
section
local macro_rules | `(tactic| walk_at "pad") => `(tactic| fail)
theorem kw6 : True := by
  w_top off
  trivial
section
variable {w : World} {A A₀ : Around} {E : Value → Shared → Prop} {s : Shared} {h₀ base : Heap} {env : Env} {outer : List Env} {L x l : Addr} {m mg mb : Str → Option Value} {news : List (Addr × Obj)}
   {p : Program} {loose : List Str} {mean : ExcName → Option Value} {Q : Value → Shared → Prop} {nm : Str} {tk : Tok} {its : Array Value} {n : Nat} {ps : List (Str × Value)}
theorem len_spec (S : Sit w A A₀ base h₀ env outer L m p loose mean mg mb news s.heap 10) (hT : Tab w news x l) (hl : (l, listOf its n) ∈ news) (hsz : its.size ≤ 1000)
   (h : ∀ h' t' tk, Fr h₀ L h' m → News h₀ L h' news → Q (.int its.size tk) {s with heap := h', toks := t'}) :
   wpAny (model pg w) A (call (.builtin "len") [.ref x]) Q E s := by
  obtain ⟨KX, T, B, F, N, hA, hf, hke, hroom, hh⟩ := S
  obtain ⟨d, tl, hx, hdd⟩ := hT.at_
  k_steps
  exact h _ _ _ (by assumption) (by assumption)
end
end
section
theorem kw7 : True := by
  w_top off
  trivial
section
variable {w : World} {A A₀ : Around} {E : Value → Shared → Prop} {s : Shared} {h₀ base : Heap} {env : Env} {outer : List Env} {L x l : Addr} {m mg mb : Str → Option Value} {news : List (Addr × Obj)}
   {p : Program} {loose : List Str} {mean : ExcName → Option Value} {Q : Value → Shared → Prop} {nm : Str} {tk : Tok} {its : Array Value} {n : Nat} {ps : List (Str × Value)}
theorem add_none (S : Sit w A A₀ base h₀ env outer L m p loose mean mg mb news s.heap 10) (hT : Tab w news x l) (hl : (l, listOf its n) ∈ news) (hsz : its.size ≤ 1000) (P : PairsN news its.toList ps)
   (hsm : nm.length ≤ 1000) (hclean : ctlIn isCtlN nm.cps = false)
   (h : ∀ h' t' t tk' ty, Fr h₀ L h' m → News h₀ L h' (upd l (listOf (its.push (.ref t)) (n + 1)) ((t, pairObj nm tk' (.str Str.empty ty)) :: news)) → PairsN (upd l (listOf (its.push (.ref t)) (n + 1)) ((t, pairObj nm tk' (.str Str.empty ty)) :: news)) (its.push (.ref t)).toList (ps ++ [(nm, .str Str.empty ty)]) → Q .none {s with heap := h', toks := t'}) :
   wpAny (model pg w) A (call (.ref 181) [.ref x, .str nm tk, .none]) Q E s := by
  obtain ⟨KX, T, B, F, N, hA, hf, hke, hroom, hh⟩ := S
  obtain ⟨d, tl, hx, hdd⟩ := hT.at_
  have hlen : nm.length ≤ 2 ^ 24 := by omega
  refine wpAny_call ?_
  walk_at "enter_more"
  k_steps
  refine hold_elim ?_
  rename Obj.IsDictOf .. => hs'
  refine' for_items_exec (KeepJ _ _) ?hh ?F ?N ?hbase ?hline ?ho ?hlo hs' ?hJ ?hl ?j0 ?turn ?done
  case hh => exact hh
  case F => k_asm
  case N => k_asm
  case j0 => exact KeepJ.start
  case hbase => rfl
  case hline => rfl
  case hlo => assumption
  case hJ => exact KeepJ.mono
  case hl => exact fun i m n h => h.2 _ (.tail _ (.head _))
  case ho => intro Q' hQ'; k_steps; exact hQ'
  case turn => intro i k v key t m₁ n₁ h tk it e; simp at e
  case done =>
    rintro m₁ n₁ h₂ tk₂ ⟨rfl, hsub⟩ F' N'
    have N' := news_mono N' hsub
    clear hsub
    k_steps
    refine h _ _ _ _ _ (by assumption) (news_mono (by assumption) (upd_sub fun p hp => (List.mem_cons.mp hp).elim (fun e => List.mem_cons.mpr (.inl e)) fun e => .tail _ (.tail _ (.tail _ e)))) (add_end (by assumption) (fun p hp => .tail _ (.tail _ hp)) hl P hsm)
end
end
section
local macro_rules | `(tactic| walk_at "pad") => `(tactic| fail)
theorem kw8 : True := by
  w_top off
  trivial
section
variable {w : World} {A A₀ : Around} {E : Value → Shared → Prop} {s : Shared} {h₀ base : Heap} {env : Env} {outer : List Env} {L x l : Addr} {m mg mb : Str → Option Value} {news : List (Addr × Obj)}
   {p : Program} {loose : List Str} {mean : ExcName → Option Value} {Q : Value → Shared → Prop} {nm : Str} {tk : Tok} {its : Array Value} {n : Nat} {ps : List (Str × Value)}
theorem init_spec (S : Sit w A A₀ base h₀ env outer L m p loose mean mg mb news s.heap 15) (hl : (l, listOf its n) ∈ news) (hsz : its.size ≤ 1000) (P : PairsN news its.toList ps)
   (hall : ∀ q ∈ ps, ctlIn isCtlN q.1.cps = false ∧ ∃ y ty, q.2 = .str y ty ∧ ctlIn isCtlV y.cps = false ∧ y.length ≤ 1000)
   (h : ∀ x d h' t' tl, Fr h₀ L h' m → News h₀ L h' ((x, instObj 184 d) :: (d, dictOf [⟨PyData.keyHash w.params (Str.ofString "_headers"), .str (Str.ofString "_headers") tl, .ref l⟩] 1) :: news) → (∀ q ∈ news, q.1 < d) → d < x → Q (.ref x) {s with heap := h', toks := t'}) :
   wpAny (model pg w) A (call (.ref 184) [.ref l]) Q E s := by
  obtain ⟨KX, T, B, F, N, hA, hf, hke, hroom, hh⟩ := S
  k_steps
  refine hold_elim ?_
  refine wpAny_For ?_
  k_steps
  refine' for_list (l := l) (its := its) (n := n) (Keep2 (Str.ofString "k") (Str.ofString "v") _ _) ?hh ?F ?N ?hJ ?hl ?j0 ?turn ?done
  case hh => exact hh
  case F => k_asm
  case N => k_asm
  case j0 => exact Keep2.start
  case hJ => exact Keep2.mono
  case hl => exact fun i m n h => h.2 _ (.tail _ (.tail _ hl))
  case turn =>
    rintro i v m₁ n₁ h₂ tk₂ it e ⟨⟨u₁, u₂, rfl⟩, hsub⟩ hit him F' N'
    obtain ⟨t, nm, tk, val, rfl, ht, hsm, hps⟩ := P.at_ i v (by rw [Array.getElem?_toList]; exact e)
    obtain ⟨hc1, y, ty, hy, hc2, hsy⟩ := hall _ (List.mem_of_getElem? hps)
    dsimp only at hy hc1
    subst hy
    have hlen1 : nm.length ≤ 2 ^ 24 := by omega
    have hlen2 : y.length ≤ 2 ^ 24 := by omega
    have N' := news_mono N' (cons_sub him hsub)
    clear him hsub
    refine assign_pair hh F' N' (.tail _ (.tail _ (.tail _ ht))) rfl rfl rfl ?_
    intro h₃ tk₃ F' N'
    k_steps
    refine ⟨_, _, _, _, rfl, by assumption, by assumption, .head _, ⟨_, _, over2_over⟩, fun p hp => .tail _ hp⟩
  case done =>
    rintro m₁ n₁ h₂ tk₂ ⟨⟨u₁, u₂, rfl⟩, hsub⟩ F' N'
    have N' := news_mono N' hsub
    clear hsub
    k_steps
    exact h _ _ _ _ _ (by assumption) (by assumption) (by assumption) (by assumption)
end
end
section
theorem kw9 : True := by
  w_top off
  trivial
section
variable {w : World} {A A₀ : Around} {E : Value → Shared → Prop} {s : Shared} {h₀ base : Heap} {env : Env} {outer : List Env} {L x l : Addr} {m mg mb : Str → Option Value} {news : List (Addr × Obj)}
   {p : Program} {loose : List Str} {mean : ExcName → Option Value} {Q : Value → Shared → Prop} {nm : Str} {tk : Tok} {its : Array Value} {n : Nat} {ps : List (Str × Value)}
end
end
section
local macro_rules | `(tactic| walk_at "pad") => `(tactic| fail)
theorem kw10 : True := by
  w_top off
  trivial
/-- the table x over the list l, which holds the pairs ps -/
structure Box (w : World) (news : List (Addr × Obj)) (x l d : Addr) (tl : Tok) (its : Array Value) (n : Nat) (ps : List (Str × Value)) : Prop where
  hx : (x, instObj 184 d) ∈ news
  hd : (d, dictOf [⟨PyData.keyHash w.params (Str.ofString "_headers"), .str (Str.ofString "_headers") tl, .ref l⟩] 1) ∈ news
  hl : (l, listOf its n) ∈ news
  P : PairsN news its.toList ps
  small : ps.length ≤ 1000
section
variable {w : World} {A A₀ : Around} {E : Value → Shared → Prop} {s : Shared} {h₀ h base : Heap} {env : Env} {outer : List Env} {L x l t d : Addr} {tl : Tok} {m mg mb : Str → Option Value} {news news' : List (Addr × Obj)}
   {p : Program} {loose : List Str} {mean : ExcName → Option Value} {Q : Value → Shared → Prop} {nm : Str} {tk : Tok} {its : Array Value} {n : Nat} {ps : List (Str × Value)}
theorem Box.tab (B : Box w news x l d tl its n ps) : Tab w news x l := ⟨_, _, B.hx, B.hd⟩
theorem Box.size (B : Box w news x l d tl its n ps) : its.size = ps.length := by
  have := B.P.length
  rw [Array.length_toList] at this
  exact this
theorem Box.small' (B : Box w news x l d tl its n ps) : its.size ≤ 1000 := B.size ▸ B.small
theorem Box.mono (B : Box w news x l d tl its n ps) (k : ∀ p ∈ news, p ∈ news') : Box w news' x l d tl its n ps := ⟨k _ B.hx, k _ B.hd, k _ B.hl, B.P.mono k, B.small⟩
theorem Box.tail {e : Addr × Obj} (B : Box w news x l d tl its n ps) : Box w (e :: news) x l d tl its n ps := B.mono fun _ h => .tail _ h
theorem Box.kept {a : Array Value} {b : Nat} (B : Box w news x l d tl its n ps) (N : News h₀ L h news) (ht : (t, listOf a b) ∈ news) (hne : l ≠ t) (K : Kept t news news') : Box w news' x l d tl its n ps := by
  refine ⟨K _ B.hx (news_ne N B.hx ht ?_), K _ B.hd (news_ne N B.hd ht ?_), K _ B.hl hne, ?_, B.small⟩
  · show Value.ref 184 ≠ Value.type "list"; decide
  · show Value.type "dict" ≠ Value.type "list"; decide
  · exact Paired.imp B.P fun v q ⟨t', tk, e, hm, hs⟩ => ⟨t', tk, e, K _ hm (news_ne N hm ht (by show Value.type "tuple" ≠ Value.type "list"; decide)), hs⟩
theorem Box.noIter (B : Box w news x l d tl its n ps) (k : ∀ p ∈ news, isIter p.2 = false → p ∈ news') : Box w news' x l d tl its n ps := by
  refine ⟨k _ B.hx ?_, k _ B.hd ?_, k _ B.hl ?_, ?_, B.small⟩
  · rfl
  · show iterNames.contains "dict" = false; decide
  · show iterNames.contains "list" = false; decide
  · exact Paired.imp B.P fun v q ⟨t', tk, e, hm, hs⟩ => ⟨t', tk, e, k _ hm (by show iterNames.contains "tuple" = false; decide), hs⟩
theorem Box.upd_self {ys : Array Value} {n' : Nat} {ps' : List (Str × Value)} (B : Box w news x l d tl its n ps) (N : News h₀ L h news) (P : PairsN (upd l (listOf ys n') news) ys.toList ps') (hs : ps'.length ≤ 1000) : Box w (upd l (listOf ys n') news) x l d tl ys n' ps' := by
  refine ⟨mem_upd B.hx (news_ne N B.hx B.hl ?_), mem_upd B.hd (news_ne N B.hd B.hl ?_), mem_upd_self B.hl, P, hs⟩
  · show Value.ref 184 ≠ Value.type "list"; decide
  · show Value.type "dict" ≠ Value.type "list"; decide
theorem box_del (S : Sit w A A₀ base h₀ env outer L m p loose mean mg mb news s.heap 10) (B : Box w news x l d tl its n ps) (hsm : nm.length ≤ 1000) (hclean : ctlIn isCtlN (Txt.lower nm).cps = false)
   (h : ∀ h' t' news' its' n', Fr h₀ L h' m → News h₀ L h' news' → Kept l news news' → Box w news' x l d tl its' n' (ps.filter fun q => !(Txt.lower q.1 == Txt.lower nm)) → Q .none {s with heap := h', toks := t'}) :
   wpAny (model pg w) A (call (.ref 102) [.ref x, .str nm tk]) Q E s :=
  del_spec S B.tab B.hl B.small' B.P hsm hclean fun h' t' ys n' F' N' P' _ => h h' t' _ ys n' F' N' Kept.upd (B.upd_self S.N P' (Nat.le_trans (List.length_filter_le _ _) B.small))
theorem Box.upd_self' {e : Addr × Obj} {ys : Array Value} {n' : Nat} {ps' : List (Str × Value)} (B : Box w news x l d tl its n ps) (N : News h₀ L h news) (P : PairsN (upd l (listOf ys n') (e :: news)) ys.toList ps') (hs : ps'.length ≤ 1000) : Box w (upd l (listOf ys n') (e :: news)) x l d tl ys n' ps' := by
  refine ⟨mem_upd (.tail _ B.hx) (news_ne N B.hx B.hl ?_), mem_upd (.tail _ B.hd) (news_ne N B.hd B.hl ?_), mem_upd_self (.tail _ B.hl), P, hs⟩
  · show Value.ref 184 ≠ Value.type "list"; decide
  · show Value.type "dict" ≠ Value.type "list"; decide
theorem box_append {v : Value} {ta : Addr} {ta' : Tok} (F : Fr h₀ L s.heap m) (N : News h₀ L s.heap news) (B : Box w news x l d tl its n ps) (ht : (ta, pairObj nm ta' v) ∈ news) (hsm : nm.length ≤ 1000) (hs : ps.length < 1000)
   (h : ∀ h' news', Fr h₀ L h' m → News h₀ L h' news' → Kept l news news' → Box w news' x l d tl (its.push (.ref ta)) (n + 1) (ps ++ [(nm, v)]) → Q .none {s with heap := h'}) :
   wpAny (model pg w) A (call (.builtin "list.append") [.ref l, .ref ta]) Q E s := by
  refine append_L F N B.hl (fun h' F' N' => h h' _ F' N' Kept.upd (B.upd_self N ?_ (by rw [List.length_append]; exact hs))) (by rw [sizeLine_eq]; have := B.small'; omega)
  have P := (B.P.upd (o' := listOf (its.push (.ref ta)) (n + 1)) N B.hl (by show Value.type "list" ≠ Value.type "tuple"; decide)).snoc (mem_upd ht (news_ne N ht B.hl (by show Value.type "tuple" ≠ Value.type "list"; decide))) hsm
  rw [Array.toList_push]
  exact P
theorem box_len (S : Sit w A A₀ base h₀ env outer L m p loose mean mg mb news s.heap 10) (B : Box w news x l d tl its n ps)
   (h : ∀ h' t' tk, Fr h₀ L h' m → News h₀ L h' news → Q (.int ps.length tk) {s with heap := h', toks := t'}) :
   wpAny (model pg w) A (call (.builtin "len") [.ref x]) Q E s :=
  len_spec S B.tab B.hl B.small' fun h' t' tk F N => B.size ▸ h h' t' tk F N
theorem box_none (S : Sit w A A₀ base h₀ env outer L m p loose mean mg mb news s.heap 10) (B : Box w news x l d tl its n ps) (hsm : nm.length ≤ 1000) (hclean : ctlIn isCtlN nm.cps = false) (hs : ps.length < 1000)
   (h : ∀ h' t' news' its' n' ty, Fr h₀ L h' m → News h₀ L h' news' → Kept l news news' → Box w news' x l d tl its' n' (ps ++ [(nm, .str Str.empty ty)]) → Q .none {s with heap := h', toks := t'}) :
   wpAny (model pg w) A (call (.ref 181) [.ref x, .str nm tk, .none]) Q E s :=
  add_none S B.tab B.hl B.small' B.P hsm hclean fun h' t' t tk' ty F N P => h h' t' _ _ _ ty F N (fun p hp hne => mem_upd (.tail _ hp) hne) (Box.upd_self' B S.N P (by rw [List.length_append]; exact hs))
theorem box_tell {a : Array Value} {b : Nat} {v : Value} (F : Fr h₀ L s.heap m) (N : News h₀ L s.heap news) (B : Box w news x l d tl its n ps) (ht : (t, listOf a b) ∈ news) (hne : l ≠ t) (hsz : a.size ≤ 1000)
   (h : ∀ h' news', Fr h₀ L h' m → News h₀ L h' news' → Kept t news news' → (t, listOf (a.push v) (b + 1)) ∈ news' → Box w news' x l d tl its n ps → Q .none {s with heap := h'}) :
   wpAny (model pg w) A (call (.builtin "list.append") [.ref t, v]) Q E s :=
  append_K F N ht (by rw [sizeLine_eq]; omega) fun h' n' F' N' K' M' => h h' n' F' N' K' M' (B.kept N ht hne K')
end
/-- a loop's word: the frame outside the names S, the ledger outside the table's list and the told one, the table's pairs and the told numbers -/
def JTab (w : World) (x l d t : Addr) (tl : Tok) (S : List Str) (M : Str → Option Value) (n₀ : List (Addr × Obj)) (R : Nat → List (Str × Value) → List Int → Prop) : Nat → (Str → Option Value) → List (Addr × Obj) → Prop := fun i m' n' =>
  Agree S M m' ∧ Kept2 l t n₀ n' ∧ ∃ ps ts, R i ps ts ∧ (∃ its n, Box w n' x l d tl its n ps) ∧ ∃ a k, (t, listOf a k) ∈ n' ∧ IntsAre a.toList ts
theorem JTab.mono {w : World} {x l d t : Addr} {tl : Tok} {S : List Str} {M : Str → Option Value} {n₀ : List (Addr × Obj)} {R : Nat → List (Str × Value) → List Int → Prop} (i : Nat) (m : Str → Option Value) (n n' : List (Addr × Obj)) (I : Addr) (h1 : ∀ p ∈ n₀, p.1 ≠ I) (h2 : ∀ p ∈ n, isIter p.2 = false → p.1 ≠ I) (h3 : JTab w x l d t tl S M n₀ R i m n) (h4 : ∀ p ∈ n, p.1 ≠ I → p ∈ n') : JTab w x l d t tl S M n₀ R i m n' := by
  obtain ⟨hA, hK, ps, ts, hR, ⟨its, k, B⟩, a, k', ht, hI⟩ := h3
  exact ⟨hA, hK.iter h1 h4, ps, ts, hR, ⟨its, k, B.noIter fun p hp hi => h4 p hp (h2 p hp hi)⟩, a, k', h4 _ ht (h2 _ ht isIter_list), hI⟩
section
variable {w : World} {A : Around} {E : Value → Shared → Prop} {s : Shared} {h₀ : Heap} {env : Env} {x l t d ln : Addr} {tl : Tok} {m : Str → Option Value} {news : List (Addr × Obj)} {its nits a₀ : Array Value} {n nn k₀ : Nat} {ps : List (Str × Value)} {ts : List Int} {target : Expr} {body : List Stmt} {Q : Flow → Shared → Prop}
end
def Good (ps : List (Str × Value)) : Prop := ∀ q ∈ ps, ctlIn isCtlN q.1.cps = false ∧ ∃ y ty, q.2 = .str y ty ∧ ctlIn isCtlV y.cps = false ∧ y.length ≤ 1000
/-- as Good, but a value may be None -/
def GoodO (ps : List (Str × Value)) : Prop := ∀ q ∈ ps, ctlIn isCtlN q.1.cps = false ∧ (q.2 = .none ∨ ∃ y ty, q.2 = .str y ty ∧ ctlIn isCtlV y.cps = false ∧ y.length ≤ 1000)
def cut (ps : List (Str × Value)) (a : Str) : List (Str × Value) := ps.filter fun q => !(Txt.lower q.1 == a)
theorem strs_at {vs : List Value} {ws : List Str} (h : StrsAre vs ws) : ∀ (i : Nat) v, vs[i]? = some v → ∃ a t, v = .str a t ∧ ws[i]? = some a := by
  induction h with
  | nil => intro i v e; simp at e
  | cons y t _ ih =>
    intro i v e
    cases i with
    | zero => cases e; exact ⟨_, _, rfl, rfl⟩
    | succ j => exact ih j v e
def cnt (ps : List (Str × Value)) (a : Str) : Nat := (ps.filter fun q => Txt.lower q.1 == a).length
def lossRow (c : Nat → Int) (k j : Nat) : List Int := (List.range j).map fun i => c i + c k
theorem cnt_cut {ps : List (Str × Value)} {a b : Str} (h : b ≠ a) : cnt (cut ps a) b = cnt ps b := by
  unfold cut cnt
  rw [List.filter_filter]
  congr 1
  apply List.filter_congr
  intro q _
  cases e : (Txt.lower q.1 == b)
  · simp
  · have e2 := eq_of_beq e
    have : (Txt.lower q.1 == a) = false := by rw [e2]; exact beq_eq_false_iff_ne.mpr h
    simp [this]
theorem cnt_cut_self {ps : List (Str × Value)} {a : Str} : cnt (cut ps a) a = 0 := by
  unfold cut cnt
  rw [List.filter_filter, List.length_eq_zero_iff, List.filter_eq_nil_iff]
  intro q _
  cases (Txt.lower q.1 == a) <;> simp
theorem cnt_append (a b : List (Str × Value)) (c : Str) : cnt (a ++ b) c = cnt a c + cnt b c := by simp [cnt]
theorem cnt_all {rs : List (Str × Value)} {a : Str} (h : ∀ q ∈ rs, Txt.lower q.1 = a) : cnt rs a = rs.length := by
  unfold cnt
  rw [List.filter_eq_self.mpr (fun q hq => by rw [h q hq]; exact beq_self_eq_true a)]
theorem cnt_other {rs : List (Str × Value)} {a b : Str} (h : ∀ q ∈ rs, Txt.lower q.1 = a) (hne : b ≠ a) : cnt rs b = 0 := by
  unfold cnt
  rw [List.length_eq_zero_iff, List.filter_eq_nil_iff]
  intro q hq e
  exact hne ((eq_of_beq e).symm.trans (h q hq))
theorem Good.append {a b : List (Str × Value)} (h1 : Good a) (h2 : Good b) : Good (a ++ b) := fun q hq => (List.mem_append.mp hq).elim (h1 q) (h2 q)
theorem Good.one {a : Str} {y : Str} {ty : Tok} (h1 : ctlIn isCtlN a.cps = false) (h2 : ctlIn isCtlV y.cps = false) (h3 : y.length ≤ 1000) : Good [(a, .str y ty)] := fun q hq => by
  cases List.mem_singleton.mp hq
  exact ⟨h1, y, ty, rfl, h2, h3⟩
theorem GoodO.append {a b : List (Str × Value)} (h1 : GoodO a) (h2 : GoodO b) : GoodO (a ++ b) := fun q hq => (List.mem_append.mp hq).elim (h1 q) (h2 q)
theorem GoodO.one {a : Str} {y : Str} {ty : Tok} (h1 : ctlIn isCtlN a.cps = false) (h2 : ctlIn isCtlV y.cps = false) (h3 : y.length ≤ 1000) : GoodO [(a, .str y ty)] := fun q hq => by
  cases List.mem_singleton.mp hq
  exact ⟨h1, .inr ⟨y, ty, rfl, h2, h3⟩⟩
theorem GoodO.none {a : Str} (h1 : ctlIn isCtlN a.cps = false) : GoodO [(a, Value.none)] := fun q hq => by
  cases List.mem_singleton.mp hq
  exact ⟨h1, .inl rfl⟩
end
section

section

section
theorem kw11 : True := by
  w_top off
  k_with_none
  k_with "k_room" => first | ((try simp only [depth_under_make, depth_under_kw, depth_in1, depth_deeper, depth_caller]); omega) | decide
  k_with "code_def" => (refine' code_def ?k1w2 ?k2w2 ?k3w2 ?k4w2 ?k5w2 ?kAw2 ?kFw2 ?kKw2 ?k6w2 ?k7w2 ?k8w2 ?k9w2 ?kBw2 ?_ ?c2w2 ?c3w2 ?c4w2 ?c5w2; (case k1w2 => k_asm); (case k2w2 => k_asm); (case k3w2 => k_asm); (case k4w2 => k_asm); (case k5w2 => k_asm); (case kAw2 => assumption); (case kFw2 => assumption); (case kKw2 => assumption);  (case k6w2 => k_is); (case k7w2 => k_is); (case k8w2 => k_room); (case k9w2 => first | exact BindsTo.of_eq rfl | exact binds_K (by k_in) rfl (by k_is) rfl rfl rfl | fail "k_enter: no rule for these arguments"); (case c5w2 => decide); (case kBw2 => exact locs rfl); (case c2w2 => exact rfl); (case c3w2 => exact rfl); (case c4w2 => exact rfl))
  k_with "code_defC" => (refine' code_defC ?k1w3 ?k2w3 ?k3w3 ?k4w3 ?k5w3 ?kAw3 ?kFw3 ?kKw3 ?k6w3 ?k7w3 ?k8w3 ?k9w3 ?kBw3 ?kDw3 ?_ ?c2w3 ?c3w3 ?c4w3; (case k1w3 => k_asm); (case k2w3 => k_asm); (case k3w3 => k_asm); (case k4w3 => k_asm); (case k5w3 => k_asm); (case kAw3 => assumption); (case kFw3 => assumption); (case kKw3 => assumption); (case k6w3 => k_is); (case k7w3 => k_is); (case k8w3 => k_room); (case k9w3 => first | exact BindsTo.of_eq rfl | exact binds_K (by k_in) rfl (by k_is) rfl rfl rfl | fail "k_enter: no rule for these arguments"); (case kBw3 => exact rfl); (case kDw3 => decide +kernel); (case c2w3 => exact rfl); (case c3w3 => exact rfl); (case c4w3 => exact rfl))
  k_with "k_mem" => first | assumption | exact List.Mem.head _ | (refine' List.Mem.tail _ ?_; k_mem)
  k_with "k_all" => exact all_ne_of_lt (by assumption) (by first | exact Nat.le_refl _ | exact Nat.le_succ _ | omega)
  k_with "call builtin:str.lower" => (refine PyProof.Rows.SCL.lower (by omega) ?_; intro _)
  k_with "eval ListComp" => refine hold_intro ?_
  k_with "eval Slice none none none" => (refine slice_K (by assumption) (by assumption) ?_; intro _ _ _ _; (try k_sweep))
  k_with "setItem ref ref ref" => refine hold_intro ?_
  k_with "exec Assign cons ListComp" => ((with_reducible show wpAny _ _ (exec (Stmt.Assign [Expr.Subscript _ _ _] _ _) _) _ _ _); refine wpAny_Assign_Subscript ?_)
  k_with "call builtin:len" => (refine' len_L ?Nw11 ?hlw11 ?hsw11 ?_; (case Nw11 => k_asm); (case hlw11 => k_mem); (case hsw11 => omega); intro _ _)
  k_with "subscriptTail Name Slice ref ref" => ((with_reducible show wpAny _ _ (subscriptTail _ _ (Value.ref _) (Value.ref _)) _ _ _); refine' copy_L ?Fw12 ?Nw12 ?hlw12 ?hsw12 ?hzw12 ?_ ?hew12; (case Fw12 => k_asm); (case Nw12 => k_asm); (case hlw12 => k_mem); (case hsw12 => exact List.Mem.head _); (case hzw12 => rw [sizeLine_eq]; omega); (case hew12 => with_unfolding_all rfl); intro _ _ _ _ _; (try k_sweep))
  k_with "kp_more" => (refine' kp_more ?k1w13 ?k2w13 ?k3w13 ?k4w13 ?k5w13 ?kAw13 ?kFw13 ?kKw13 ?k6w13 ?k7w13 ?k8w13 ?kXw13 ?kMw13 ?kNw13 ?kDw13 ?kRw13 ?kPw13 ?kTw13 ?kBw13 ?_ ?c2w13 ?c3w13 ?c4w13 ?c5w13; (case kAw13 => assumption); (case kFw13 => assumption); (case kKw13 => assumption); (case k1w13 => k_asm); (case k2w13 => k_asm); (case k3w13 => k_asm); (case k4w13 => k_asm); (case k5w13 => k_asm); (case k6w13 => k_is); (case k7w13 => k_is); (case k8w13 => k_room); (case kXw13 => kp_lit); (case kMw13 => exact rfl); (case kNw13 => exact rfl); (case kDw13 => kp_flats); (case kRw13 => exact rfl); (case kPw13 => exact rfl); (case kTw13 => exact fun _ => rfl); (case kBw13 => exact fun _ => locs rfl); (case c5w13 => decide); (case c2w13 => exact rfl); (case c3w13 => exact rfl); (case c4w13 => exact rfl))
  k_with "exec For Tuple Name" => refine hold_intro ?_
  k_with "exec For Tuple Call" => refine hold_intro ?_
  k_with "exec For Tuple Call cons nil" => refine hold_intro ?_
  k_with "exec For Tuple Name cons nil" => refine hold_intro ?_
  k_with "call builtin:list.append" => (refine' append_L ?Fw18 ?Nw18 ?hlw18 ?_ ?hzw18; (case Fw18 => k_asm); (case Nw18 => k_asm); (case hlw18 => k_mem); (case hzw18 => (rw [sizeLine_eq]; omega)); intro _ _ _)
  k_with "mk_sit" => (refine' Sit.mk ?KXw19 ?Tw19 ?Bw19 ?Fw19 ?Nw19 ?hAw19 ?hfw19 ?hkew19 ?hroomw19 ?hhw19; (case KXw19 => k_asm); (case Tw19 => k_asm); (case Bw19 => k_asm); (case Fw19 => k_asm); (case Nw19 => k_asm); (case hAw19 => first | with_reducible assumption | exact Around.frames_deeper (Below.stack (by with_reducible assumption)) | rfl); (case hfw19 => first | with_reducible assumption | rfl); (case hkew19 => first | with_reducible assumption | rfl); (case hroomw19 => k_room); (case hhw19 => first | with_reducible assumption | exact handled_deeper (by with_reducible assumption) | assumption | rfl))
  k_with "call ref" => ((with_reducible show wpAny _ _ (call (Value.ref 83) [_, Value.str _ _] (List.zip _ [Value.bool true])) _ _ _); k_dflt (refine' conv_name ?Sw20 ?kaw20 ?kbw20 ?_; (case Sw20 => walk_at "mk_sit"); (case kaw20 => k_asm); (case kbw20 => k_asm); k_whole); intro _ _ _ _)
  k_with "call ref" => ((with_reducible show wpAny _ _ (call (Value.ref 83) [_, Value.str _ _] (List.zip _ [Value.bool false])) _ _ _); k_dflt (refine' conv_val ?Sw21 ?kaw21 ?kbw21 ?_; (case Sw21 => walk_at "mk_sit"); (case kaw21 => k_asm); (case kbw21 => k_asm); k_whole); intro _ _ _ _)
  k_with "box" => first | with_reducible assumption | exact Box.tail (by with_reducible assumption) | exact Box.tail (Box.tail (by with_reducible assumption)) | exact Box.tail (Box.tail (Box.tail (by with_reducible assumption))) | exact Box.tail (Box.tail (Box.tail (Box.tail (by with_reducible assumption))))
  k_with "k_mem" => first | with_reducible assumption | exact Box.hx (by with_reducible assumption) | exact Box.hd (by with_reducible assumption) | exact Box.hl (by with_reducible assumption) | exact List.Mem.head _ | (refine' List.Mem.tail _ ?_; k_mem) | (refine' Kept.mem (by with_reducible assumption) ?_ ?_; (k_mem); (first | with_reducible assumption | exact Ne.symm (by with_reducible assumption)))
  k_with "call ref" => ((with_reducible show wpAny _ _ (call (Value.ref 102) [_, Value.str _ _] _) _ _ _); k_dflt (refine' box_del ?Sw24 ?Bw24 ?kaw24 ?kbw24 ?_; (case Sw24 => walk_at "mk_sit"); (case Bw24 => walk_at "box"); (case kaw24 => walk_at "side"); (case kbw24 => walk_at "side"); k_whole); intro _ _ _ _ _ _ _ _ _)
  k_with "call ref" => ((with_reducible show wpAny _ _ (call (Value.ref 123) [_, Value.str _ _] _) _ _ _); k_dflt (refine' box_get ?Sw25 ?Bw25 ?kaw25 ?kbw25 ?_; (case Sw25 => walk_at "mk_sit"); (case Bw25 => walk_at "box"); (case kaw25 => walk_at "side"); (case kbw25 => walk_at "side"); k_whole); intro _ _ _ _ _ _ _ _ _)
  k_with "call ref" => ((with_reducible show wpAny _ _ (call (Value.ref 181) [_, Value.str _ _, Value.none] _) _ _ _); k_dflt (refine' box_none ?Sw26 ?Bw26 ?kaw26 ?kbw26 ?kcw26 ?_; (case Sw26 => walk_at "mk_sit"); (case Bw26 => walk_at "box"); (case kaw26 => walk_at "side"); (case kbw26 => walk_at "side"); (case kcw26 => walk_at "side"); k_whole); intro _ _ _ _ _ _ _ _ _ _)
  k_with "call ref" => ((with_reducible show wpAny _ _ (call (Value.ref 181) [_, Value.str _ _, Value.str _ _] _) _ _ _); k_dflt (refine' box_str ?Sw27 ?Bw27 ?kaw27 ?kbw27 ?kcw27 ?kdw27 ?kew27 ?_; (case Sw27 => walk_at "mk_sit"); (case Bw27 => walk_at "box"); (case kaw27 => walk_at "side"); (case kbw27 => walk_at "side"); (case kcw27 => walk_at "side"); (case kdw27 => walk_at "side"); (case kew27 => walk_at "side"); k_whole); intro _ _ _ _ _ _ _ _ _ _)
  k_with "call ref" => ((show wpAny _ _ (call (Value.ref 148) [Value.ref _]) _ _ _); k_dflt (refine' box_items ?Sw28 ?Bw28 ?_; (case Sw28 => walk_at "mk_sit"); (case Bw28 => walk_at "box"); k_whole); intro _ _ _ _ _ _)
  k_with "side" => first | with_reducible assumption | decide | omega
  k_with "call builtin:len" => (k_dflt (refine' box_len ?Sw30 ?Bw30 ?_; (case Sw30 => walk_at "mk_sit"); (case Bw30 => walk_at "box"); k_whole); intro _ _ _ _ _)
  k_with "call builtin:list.append" => (refine' append_K ?Fw31 ?Nw31 ?hlw31 ?hzw31 ?_; (case Fw31 => k_asm); (case Nw31 => k_asm); (case hlw31 => k_mem); (case hzw31 => (rw [sizeLine_eq]; first | omega | decide)); intro _ _ _ _ _ _)
  k_with "call builtin:list.append" => (refine' box_tell ?Fw32 ?Nw32 ?Bw32 ?htw32 ?hnew32 ?hsw32 ?_; (case Fw32 => k_asm); (case Nw32 => k_asm); (case Bw32 => walk_at "box"); (case htw32 => k_mem); (case hnew32 => assumption); (case hsw32 => walk_at "side"); intro _ _ _ _ _ _ _)
  k_with "call builtin:list.append" => (refine' box_append ?Fw33 ?Nw33 ?Bw33 ?htw33 ?hsw33 ?hzw33 ?_; (case Fw33 => k_asm); (case Nw33 => k_asm); (case Bw33 => walk_at "box"); (case htw33 => exact List.Mem.head _); (case hsw33 => walk_at "side"); (case hzw33 => walk_at "side"); intro _ _ _ _ _ _)
  k_with "exec For Name Call" => refine hold_intro ?_
  k_with "exec For Name Name" => refine hold_intro ?_
  k_with "exec For Name Name cons nil" => refine hold_intro ?_
  k_with "exec For Name Call cons nil" => refine hold_intro ?_
  k_with "kept2" => first | assumption | exact Kept2.start | (refine' Kept2.tail ?_; walk_at "kept2") | (refine' Kept2.left ?kzw38 ?kww38; (case kww38 => assumption); (case kzw38 => walk_at "kept2")) | (refine' Kept2.right ?kzw38 ?kww38; (case kww38 => assumption); (case kzw38 => walk_at "kept2")) | (refine' Kept2.both ?kzw38 ?kww38; (case kww38 => with_reducible assumption); (case kzw38 => walk_at "kept2"))
  k_with "agree" => first | assumption | exact Agree.start | (refine' Agree.set ?_ ?kww39; (case kww39 => decide); walk_at "agree")
  k_with "delItem ref str" => (k_dflt (refine' delItem_own ?Fw40 ?Xw40 ?Iw40 ?hQw40 ?hSw40 ?hFw40 ?_; (case Fw40 => k_asm); (case Xw40 => k_asm); (case Iw40 => k_inst); (case hSw40 => k_is); (case hFw40 => k_is); (case hQw40 => k_is); k_whole))
  k_with "call builtin:len" => (refine' len_L ?Nw41 ?hlw41 ?hsw41 ?_; (case hlw41 => k_mem); (case hsw41 => with_reducible assumption); (case Nw41 => k_asm); intro _ _)
  k_with "call ref" => ((with_reducible show wpAny _ _ (call (Value.ref 83) [_, Value.str _ _] (List.zip _ [Value.bool true])) _ _ _); k_dflt (refine' conv_name_bad ?Sw59 ?kaw59 ?kbw59 ?_; (case kbw59 => with_reducible assumption); (case Sw59 => walk_at "mk_sit"); (case kaw59 => with_reducible assumption); k_whole); intro _ _ _ _ _ _ _ _ _ _ _)
  k_with "call ref" => ((with_reducible show wpAny _ _ (call (Value.ref 83) [_, Value.str _ _] (List.zip _ [Value.bool false])) _ _ _); k_dflt (refine' conv_val_bad ?Sw60 ?kaw60 ?kbw60 ?_; (case kbw60 => with_reducible assumption); (case Sw60 => walk_at "mk_sit"); (case kaw60 => with_reducible assumption); k_whole); intro _ _ _ _ _ _ _ _ _ _ _)
  k_with "call ref" => ((with_reducible show wpAny _ _ (call (Value.ref 83) [_, Value.int _ _] (List.zip _ [Value.bool _])) _ _ _); k_dflt (refine' conv_int_bad ?Sw61 ?k0w61 ?k1w61 ?kyw61 ?_; (case Sw61 => walk_at "mk_sit"); (case k0w61 => with_reducible assumption); (case k1w61 => with_reducible assumption); (case kyw61 => with_reducible assumption); k_whole); intro _ _ _ _ _ _ _ _ _ _ _)
  k_with "leaving ref" => (k_here; (refine' leave_onS ?k1w62 ?k2w62 ?k3w62 ?k4w62 ?_; (case k3w62 => assumption); (case k2w62 => assumption); (case k1w62 => assumption); (case k4w62 => assumption); k_whole; intro _ S' R' U'; (try dsimp only at S' R' U' ⊢); (revert S' R' U'; intro _ _ _)))
  trivial
theorem kept_sub {l : Addr} {a b c : List (Addr × Obj)} (h1 : Kept l a b) (h2 : ∀ q ∈ b, q ∈ c) : Kept l a c := fun q hq hne => h2 q (h1 q hq hne)
theorem kept_two {l : Addr} {e : Addr × Obj} {a b c : List (Addr × Obj)} (h1 : Kept l a b) (h2 : Kept l (e :: b) c) : Kept l a c := fun q hq hne => h2 q (.tail _ (h1 q hq hne)) hne
section
variable {w : World} {A A₀ : Around} {E : Value → Shared → Prop} {s : Shared} {h₀ base : Heap} {env : Env} {outer : List Env} {L x l d : Addr} {tl : Tok} {m mg mb : Str → Option Value} {news : List (Addr × Obj)}
   {p : Program} {loose : List Str} {mean : ExcName → Option Value} {Q : Value → Shared → Prop} {nm : Str} {tk : Tok} {its : Array Value} {n : Nat} {ps : List (Str × Value)}
theorem set_box {v : Str} {tv : Tok} (S : Sit w A A₀ base h₀ env outer L m p loose mean mg mb news s.heap 20) (B : Box w news x l d tl its n ps) (hsm : nm.length ≤ 1000) (hclean : ctlIn isCtlN (Txt.lower nm).cps = false) (hc2 : ctlIn isCtlN nm.cps = false) (hvm : v.length ≤ 1000) (hvc : ctlIn isCtlV v.cps = false) (hs : ps.length < 1000)
   (h : ∀ h' t' news' its' n' ty, Fr h₀ L h' m → News h₀ L h' news' → Kept l news news' → Box w news' x l d tl its' n' (ps.filter (fun q => !(Txt.lower q.1 == Txt.lower nm)) ++ [(nm, .str v ty)]) → Q .none {s with heap := h', toks := t'}) :
   wpAny (model pg w) A (call (.ref 97) [.ref x, .str nm tk, .str v tv]) Q E s := by
  obtain ⟨KX, T, B', F, N, hA, hf, hke, hroom, hh⟩ := S
  have hlen : nm.length ≤ 2 ^ 24 := by omega
  have hlenv : v.length ≤ 2 ^ 24 := by omega
  have hps : (ps.filter (fun q => !(Txt.lower q.1 == Txt.lower nm))).length < 1000 := Nat.lt_of_le_of_lt (List.length_filter_le _ _) hs
  refine wpAny_call ?_
  k_enter
  k_steps
  exact h _ _ _ _ _ _ (by assumption) (by assumption) (kept_two (by assumption) (by assumption)) (by walk_at "box")
theorem set_bad {v : Str} {tv : Tok} (S : Sit w A A₀ base h₀ env outer L m p loose mean mg mb news s.heap 20) (B : Box w news x l d tl its n ps) (hsm : nm.length ≤ 1000) (hclean : ctlIn isCtlN (Txt.lower nm).cps = false) (hc2 : ctlIn isCtlN nm.cps = false) (hvm : v.length ≤ 1000) (hvc : ctlIn isCtlV v.cps = true) (hs : ps.length < 1000)
   (h : ∀ e t g h' t' news' tk' its' n', Fr h₀ L g m → RaisedS base g (env :: outer) e (.type "ValueError") t [.str (Str.ofString "Control characters not allowed in headers") tk'] news' h' → g.UpToSlots h' → Kept l news news' → Box w news' x l d tl its' n' (ps.filter (fun q => !(Txt.lower q.1 == Txt.lower nm))) → E (.ref e) {s with heap := h', toks := t'}) :
   wpAny (model pg w) A (call (.ref 97) [.ref x, .str nm tk, .str v tv]) Q E s := by
  obtain ⟨KX, T, B', F, N, hA, hf, hke, hroom, hh⟩ := S
  have hlen : nm.length ≤ 2 ^ 24 := by omega
  have hlenv : v.length ≤ 2 ^ 24 := by omega
  refine wpAny_call ?_
  k_enter
  k_steps
  exact h _ _ _ _ _ _ _ _ _ (by assumption) (by assumption) (by assumption) (kept_sub (by assumption) (by assumption)) (Box.mono (by assumption) (by assumption))
theorem set_int {z : Int} {tv : Tok} (S : Sit w A A₀ base h₀ env outer L m p loose mean mg mb news s.heap 20) (B : Box w news x l d tl its n ps) (hsm : nm.length ≤ 1000) (hclean : ctlIn isCtlN (Txt.lower nm).cps = false) (hc2 : ctlIn isCtlN nm.cps = false) (hz0 : 0 ≤ z) (hz1 : z < 12) (hy : (Str.ofString (toString z)).length ≤ 100000) (hs : ps.length < 1000)
   (h : ∀ e t g h' t' news' tk' its' n', Fr h₀ L g m → RaisedS base g (env :: outer) e (.type "AssertionError") t [.str ((Str.ofString "Header names/values must be of type str (got " ++ Str.ofString (toString z)) ++ Str.ofString ")") tk'] news' h' → g.UpToSlots h' → Kept l news news' → Box w news' x l d tl its' n' (ps.filter (fun q => !(Txt.lower q.1 == Txt.lower nm))) → E (.ref e) {s with heap := h', toks := t'}) :
   wpAny (model pg w) A (call (.ref 97) [.ref x, .str nm tk, .int z tv]) Q E s := by
  obtain ⟨KX, T, B', F, N, hA, hf, hke, hroom, hh⟩ := S
  have hlen : nm.length ≤ 2 ^ 24 := by omega
  refine wpAny_call ?_
  k_enter
  k_steps
  exact h _ _ _ _ _ _ _ _ _ (by assumption) (by assumption) (by assumption) (kept_sub (by assumption) (by assumption)) (Box.mono (by assumption) (by assumption))
end
end
section
local macro_rules | `(tactic| walk_at "pad") => `(tactic| fail)
theorem kw12 : True := by
  w_top off
  trivial
/-- what «get» tells -/
def getv (ps : List (Str × Value)) (key : Str) : Value := match ps.find? (fun q => Txt.lower q.1 == key) with
  | some q => q.2
  | none => .none
def Seek (x₁ x₂ : Str) (M : Str → Option Value) (n₀ : List (Addr × Obj)) (ps : List (Str × Value)) (key : Str) : Nat → (Str → Option Value) → List (Addr × Obj) → Prop := fun i m' n' => Keep2 x₁ x₂ M n₀ i m' n' ∧ ∀ j < i, ∀ q, ps[j]? = some q → (Txt.lower q.1 == key) = false
theorem Seek.start {x₁ x₂ : Str} {M : Str → Option Value} {n₀ : List (Addr × Obj)} {ps : List (Str × Value)} {key : Str} : Seek x₁ x₂ M n₀ ps key 0 M n₀ := ⟨Keep2.start, fun j hj => absurd hj (Nat.not_lt_zero _)⟩
theorem Seek.mono {x₁ x₂ : Str} {M : Str → Option Value} {n₀ : List (Addr × Obj)} {ps : List (Str × Value)} {key : Str} (i : Nat) (m : Str → Option Value) (n n' : List (Addr × Obj)) (I : Addr) (h1 : ∀ p ∈ n₀, p.1 ≠ I) (h2 : ∀ p ∈ n, isIter p.2 = false → p.1 ≠ I) (h3 : Seek x₁ x₂ M n₀ ps key i m n) (h4 : ∀ p ∈ n, p.1 ≠ I → p ∈ n') : Seek x₁ x₂ M n₀ ps key i m n' :=
  ⟨Keep2.mono i m n n' I h1 h2 h3.1 h4, h3.2⟩
theorem getv_at {ps : List (Str × Value)} {key : Str} {i : Nat} {q : Str × Value} (h : ps[i]? = some q) (hk : (Txt.lower q.1 == key) = true) (hb : ∀ j < i, ∀ q, ps[j]? = some q → (Txt.lower q.1 == key) = false) : getv ps key = q.2 := by
  induction ps generalizing i with
  | nil => simp at h
  | cons a r ih =>
    unfold getv
    rw [List.find?_cons]
    cases i with
    | zero => cases h; rw [hk]
    | succ j =>
      rw [hb 0 (Nat.succ_pos _) a rfl]
      exact ih h fun j' hj q hq => hb (j' + 1) (Nat.succ_lt_succ hj) q hq
theorem getv_no {ps : List (Str × Value)} {key : Str} (hb : ∀ j < ps.length, ∀ q, ps[j]? = some q → (Txt.lower q.1 == key) = false) : getv ps key = .none := by
  induction ps with
  | nil => rfl
  | cons a r ih =>
    unfold getv
    rw [List.find?_cons, hb 0 (Nat.succ_pos _) a rfl]
    exact ih fun j' hj q hq => hb (j' + 1) (Nat.succ_lt_succ hj) q hq
section
variable {w : World} {A A₀ : Around} {E : Value → Shared → Prop} {s : Shared} {h₀ base : Heap} {env : Env} {outer : List Env} {L x l d : Addr} {tl : Tok} {m mg mb : Str → Option Value} {news : List (Addr × Obj)}
   {p : Program} {loose : List Str} {mean : ExcName → Option Value} {Q : Value → Shared → Prop} {nm : Str} {tk : Tok} {its : Array Value} {n : Nat} {ps : List (Str × Value)}
theorem get_box {v : Value} (S : Sit w A A₀ base h₀ env outer L m p loose mean mg mb news s.heap 15) (B : Box w news x l d tl its n ps) (hsm : nm.length ≤ 1000) (hclean : ctlIn isCtlN (Txt.lower nm).cps = false) (hv : getv ps (Txt.lower nm) = v)
   (h : ∀ h' t', Fr h₀ L h' m → News h₀ L h' news → Q v {s with heap := h', toks := t'}) :
   wpAny (model pg w) A (call (.ref 131) [.ref x, .str nm tk]) Q E s := by
  obtain ⟨KX, T, B', F, N, hA, hf, hke, hroom, hh⟩ := S
  have hll : (Txt.lower nm).length ≤ 2 ^ 24 := by have := len_lower nm; omega
  have hl := B.hl
  have P := B.P
  subst hv
  refine wpAny_call ?_
  k_enter
  k_steps
  refine hold_elim ?_
  refine wpAny_For ?_
  k_steps
  refine' for_list (l := l) (its := its) (n := n) (Seek (Str.ofString "k") (Str.ofString "v") _ _ ps (Txt.lower nm)) ?hh ?F ?N ?hJ ?hl ?j0 ?turn ?done
  case hh => exact hh
  case F => k_asm
  case N => k_asm
  case j0 => exact Seek.start
  case hJ => exact Seek.mono
  case hl => exact fun i m n h => h.1.2 _ (by k_mem)
  case turn =>
    rintro i v m₁ n₁ h₂ tk₂ it e ⟨⟨⟨u₁, u₂, rfl⟩, hsub⟩, hno⟩ hit him F' N'
    obtain ⟨t, nm2, tk, val, rfl, ht, hsm2, hps⟩ := P.at_ i v (by rw [Array.getElem?_toList]; exact e)
    have hlen1 : nm2.length ≤ 2 ^ 24 := by omega
    have ht1 := hsub _ ht
    refine assign_pair hh F' N' ht1 rfl rfl rfl ?_
    intro h₃ tk₃ F' N'
    k_steps
    · unfold TurnEnd
      dsimp only
      k_steps
      rw [getv_at hps (by assumption) hno] at h
      exact h _ _ (by assumption) (news_mono (by assumption) hsub)
    · refine ⟨_, _, _, _, rfl, by assumption, by assumption, him, ⟨⟨_, _, over2_over⟩, hsub⟩, ?_⟩
      intro j hj q hq
      rcases Nat.lt_succ_iff_lt_or_eq.mp hj with hj | rfl
      · exact hno j hj q hq
      · rw [hps] at hq
        cases hq
        assumption
  case done =>
    rintro m₁ n₁ h₂ tk₂ ⟨⟨⟨u₁, u₂, rfl⟩, hsub⟩, hno⟩ F' N'
    k_steps
    rw [getv_no (fun j hj => hno j (B.size ▸ hj))] at h
    exact h _ _ (by assumption) (news_mono (by assumption) hsub)
end
end
section
theorem kw14 : True := by
  w_top off
  trivial
section
variable {w : World} {A A₀ : Around} {E : Value → Shared → Prop} {s : Shared} {h₀ base : Heap} {env : Env} {outer : List Env} {L x l d : Addr} {tl : Tok} {m mg mb : Str → Option Value} {news : List (Addr × Obj)}
   {p : Program} {loose : List Str} {mean : ExcName → Option Value} {Q : Value → Shared → Prop} {nm : Str} {tk : Tok} {its : Array Value} {n : Nat} {ps : List (Str × Value)}
theorem get_bad (S : Sit w A A₀ base h₀ env outer L m p loose mean mg mb news s.heap 15) (hsm : nm.length ≤ 1000) (hbad : ctlIn isCtlN (Txt.lower nm).cps = true)
   (B : Box w news x l d tl its n ps)
   (h : ∀ e t g h' t' news' tk', Fr h₀ L g m → RaisedS base g (env :: outer) e (.type "ValueError") t [.str (Str.ofString "Control characters not allowed in headers") tk'] news' h' → g.UpToSlots h' → (∀ q ∈ news, q ∈ news') → E (.ref e) {s with heap := h', toks := t'}) :
   wpAny (model pg w) A (call (.ref 131) [.ref x, .str nm tk]) Q E s := by
  obtain ⟨KX, T, B', F, N, hA, hf, hke, hroom, hh⟩ := S
  have hll : (Txt.lower nm).length ≤ 2 ^ 24 := by have := len_lower nm; omega
  refine wpAny_call ?_
  k_enter
  k_steps
  exact h _ _ _ _ _ _ _ (by assumption) (by assumption) (by assumption) (by assumption)
theorem kw13 : True := by
  k_with "call ref" => ((with_reducible show wpAny _ _ (call (Value.ref 131) [_, Value.str _ _] _) _ _ _); k_dflt (refine' get_box ?Sw63 ?Bw63 ?kaw63 ?kbw63 ?kvw63 ?_; (case kvw63 => with_reducible assumption); (case Sw63 => walk_at "mk_sit"); (case Bw63 => walk_at "box"); (case kaw63 => with_reducible assumption); (case kbw63 => with_reducible assumption); k_whole); intro _ _ _ _)
  k_with "call ref" => ((with_reducible show wpAny _ _ (call (Value.ref 131) [_, Value.str _ _] _) _ _ _); k_dflt (refine' get_bad ?Sw64 ?kaw64 ?kbw64 ?Bw64 ?_; (case kbw64 => with_reducible assumption); (case Sw64 => walk_at "mk_sit"); (case Bw64 => walk_at "box"); (case kaw64 => with_reducible assumption); k_whole); intro _ _ _ _ _ _ _ _ _ _ _)
  trivial
theorem setdef_none {v : Str} {tv : Tok} (S : Sit w A A₀ base h₀ env outer L m p loose mean mg mb news s.heap 25) (B : Box w news x l d tl its n ps) (hsm : nm.length ≤ 1000) (hclean : ctlIn isCtlN (Txt.lower nm).cps = false) (hc2 : ctlIn isCtlN nm.cps = false) (hvm : v.length ≤ 1000) (hvc : ctlIn isCtlV v.cps = false) (hs : ps.length < 1000) (hv : getv ps (Txt.lower nm) = .none)
   (h : ∀ h' t' news' its' n' ty, Fr h₀ L h' m → News h₀ L h' news' → Kept l news news' → Box w news' x l d tl its' n' (ps ++ [(nm, .str v ty)]) → Q (.str v tv) {s with heap := h', toks := t'}) :
   wpAny (model pg w) A (call (.ref 174) [.ref x, .str nm tk, .str v tv]) Q E s := by
  obtain ⟨KX, T, B', F, N, hA, hf, hke, hroom, hh⟩ := S
  have hlen : nm.length ≤ 2 ^ 24 := by omega
  have hlenv : v.length ≤ 2 ^ 24 := by omega
  refine wpAny_call ?_
  k_enter
  k_steps
  exact h _ _ _ _ _ _ (by assumption) (by assumption) (fun q hq hne => (by assumption : Kept l (_ :: news) _) q (.tail _ hq) hne) (by walk_at "box")
theorem setdef_some {v y : Str} {tv ty : Tok} (S : Sit w A A₀ base h₀ env outer L m p loose mean mg mb news s.heap 25) (B : Box w news x l d tl its n ps) (hsm : nm.length ≤ 1000) (hclean : ctlIn isCtlN (Txt.lower nm).cps = false) (hv : getv ps (Txt.lower nm) = .str y ty)
   (h : ∀ h' t', Fr h₀ L h' m → News h₀ L h' news → Q (.str y ty) {s with heap := h', toks := t'}) :
   wpAny (model pg w) A (call (.ref 174) [.ref x, .str nm tk, .str v tv]) Q E s := by
  obtain ⟨KX, T, B', F, N, hA, hf, hke, hroom, hh⟩ := S
  refine wpAny_call ?_
  k_enter
  k_steps
  exact h _ _ (by assumption) (by assumption)
theorem setdef_bad {v : Str} {tv : Tok} (S : Sit w A A₀ base h₀ env outer L m p loose mean mg mb news s.heap 25) (hsm : nm.length ≤ 1000) (hbad : ctlIn isCtlN (Txt.lower nm).cps = true)
   (B : Box w news x l d tl its n ps)
   (h : ∀ e t g h' t' news' tk', Fr h₀ L g m → RaisedS base g (env :: outer) e (.type "ValueError") t [.str (Str.ofString "Control characters not allowed in headers") tk'] news' h' → g.UpToSlots h' → (∀ q ∈ news, q ∈ news') → E (.ref e) {s with heap := h', toks := t'}) :
   wpAny (model pg w) A (call (.ref 174) [.ref x, .str nm tk, .str v tv]) Q E s := by
  obtain ⟨KX, T, B', F, N, hA, hf, hke, hroom, hh⟩ := S
  refine wpAny_call ?_
  k_enter
  k_steps
  exact h _ _ _ _ _ _ _ (by assumption) (by assumption) (by assumption) (by assumption)
end
end
section
local macro_rules | `(tactic| walk_at "pad") => `(tactic| fail)
theorem kw19 : True := by
  w_top off
  k_with_none
  k_with "k_room" => first | ((try simp only [depth_under_make, depth_under_kw, depth_in1, depth_deeper, depth_caller]); omega) | decide
  k_with "code_def" => (refine' code_def ?k1w2 ?k2w2 ?k3w2 ?k4w2 ?k5w2 ?kAw2 ?kFw2 ?kKw2 ?k6w2 ?k7w2 ?k8w2 ?k9w2 ?kBw2 ?_ ?c2w2 ?c3w2 ?c4w2 ?c5w2; (case k1w2 => k_asm); (case k2w2 => k_asm); (case k3w2 => k_asm); (case k4w2 => k_asm); (case k5w2 => k_asm); (case kAw2 => assumption); (case kFw2 => assumption); (case kKw2 => assumption);  (case k6w2 => k_is); (case k7w2 => k_is); (case k8w2 => k_room); (case k9w2 => first | exact BindsTo.of_eq rfl | exact binds_K (by k_in) rfl (by k_is) rfl rfl rfl | fail "k_enter: no rule for these arguments"); (case c5w2 => decide); (case kBw2 => exact locs rfl); (case c2w2 => exact rfl); (case c3w2 => exact rfl); (case c4w2 => exact rfl))
  k_with "code_defC" => (refine' code_defC ?k1w3 ?k2w3 ?k3w3 ?k4w3 ?k5w3 ?kAw3 ?kFw3 ?kKw3 ?k6w3 ?k7w3 ?k8w3 ?k9w3 ?kBw3 ?kDw3 ?_ ?c2w3 ?c3w3 ?c4w3; (case k1w3 => k_asm); (case k2w3 => k_asm); (case k3w3 => k_asm); (case k4w3 => k_asm); (case k5w3 => k_asm); (case kAw3 => assumption); (case kFw3 => assumption); (case kKw3 => assumption); (case k6w3 => k_is); (case k7w3 => k_is); (case k8w3 => k_room); (case k9w3 => first | exact BindsTo.of_eq rfl | exact binds_K (by k_in) rfl (by k_is) rfl rfl rfl | fail "k_enter: no rule for these arguments"); (case kBw3 => exact rfl); (case kDw3 => decide +kernel); (case c2w3 => exact rfl); (case c3w3 => exact rfl); (case c4w3 => exact rfl))
  k_with "k_mem" => first | assumption | exact List.Mem.head _ | (refine' List.Mem.tail _ ?_; k_mem)
  k_with "k_all" => exact all_ne_of_lt (by assumption) (by first | exact Nat.le_refl _ | exact Nat.le_succ _ | omega)
  k_with "call builtin:str.lower" => (refine PyProof.Rows.SCL.lower (by omega) ?_; intro _)
  k_with "eval ListComp" => refine hold_intro ?_
  k_with "eval Slice none none none" => (refine slice_K (by assumption) (by assumption) ?_; intro _ _ _ _; (try k_sweep))
  k_with "setItem ref ref ref" => refine hold_intro ?_
  k_with "exec Assign cons ListComp" => ((with_reducible show wpAny _ _ (exec (Stmt.Assign [Expr.Subscript _ _ _] _ _) _) _ _ _); refine wpAny_Assign_Subscript ?_)
  k_with "call builtin:len" => (refine' len_L ?Nw11 ?hlw11 ?hsw11 ?_; (case Nw11 => k_asm); (case hlw11 => k_mem); (case hsw11 => omega); intro _ _)
  k_with "subscriptTail Name Slice ref ref" => ((with_reducible show wpAny _ _ (subscriptTail _ _ (Value.ref _) (Value.ref _)) _ _ _); refine' copy_L ?Fw12 ?Nw12 ?hlw12 ?hsw12 ?hzw12 ?_ ?hew12; (case Fw12 => k_asm); (case Nw12 => k_asm); (case hlw12 => k_mem); (case hsw12 => exact List.Mem.head _); (case hzw12 => rw [sizeLine_eq]; omega); (case hew12 => with_unfolding_all rfl); intro _ _ _ _ _; (try k_sweep))
  k_with "kp_more" => (refine' kp_more ?k1w13 ?k2w13 ?k3w13 ?k4w13 ?k5w13 ?kAw13 ?kFw13 ?kKw13 ?k6w13 ?k7w13 ?k8w13 ?kXw13 ?kMw13 ?kNw13 ?kDw13 ?kRw13 ?kPw13 ?kTw13 ?kBw13 ?_ ?c2w13 ?c3w13 ?c4w13 ?c5w13; (case kAw13 => assumption); (case kFw13 => assumption); (case kKw13 => assumption); (case k1w13 => k_asm); (case k2w13 => k_asm); (case k3w13 => k_asm); (case k4w13 => k_asm); (case k5w13 => k_asm); (case k6w13 => k_is); (case k7w13 => k_is); (case k8w13 => k_room); (case kXw13 => kp_lit); (case kMw13 => exact rfl); (case kNw13 => exact rfl); (case kDw13 => kp_flats); (case kRw13 => exact rfl); (case kPw13 => exact rfl); (case kTw13 => exact fun _ => rfl); (case kBw13 => exact fun _ => locs rfl); (case c5w13 => decide); (case c2w13 => exact rfl); (case c3w13 => exact rfl); (case c4w13 => exact rfl))
  k_with "exec For Tuple Name" => refine hold_intro ?_
  k_with "exec For Tuple Call" => refine hold_intro ?_
  k_with "exec For Tuple Call cons nil" => refine hold_intro ?_
  k_with "exec For Tuple Name cons nil" => refine hold_intro ?_
  k_with "call builtin:list.append" => (refine' append_L ?Fw18 ?Nw18 ?hlw18 ?_ ?hzw18; (case Fw18 => k_asm); (case Nw18 => k_asm); (case hlw18 => k_mem); (case hzw18 => (rw [sizeLine_eq]; omega)); intro _ _ _)
  k_with "mk_sit" => (refine' Sit.mk ?KXw19 ?Tw19 ?Bw19 ?Fw19 ?Nw19 ?hAw19 ?hfw19 ?hkew19 ?hroomw19 ?hhw19; (case KXw19 => k_asm); (case Tw19 => k_asm); (case Bw19 => k_asm); (case Fw19 => k_asm); (case Nw19 => k_asm); (case hAw19 => first | with_reducible assumption | exact Around.frames_deeper (Below.stack (by with_reducible assumption)) | rfl); (case hfw19 => first | with_reducible assumption | rfl); (case hkew19 => first | with_reducible assumption | rfl); (case hroomw19 => k_room); (case hhw19 => first | with_reducible assumption | exact handled_deeper (by with_reducible assumption) | assumption | rfl))
  k_with "call ref" => ((with_reducible show wpAny _ _ (call (Value.ref 83) [_, Value.str _ _] (List.zip _ [Value.bool true])) _ _ _); k_dflt (refine' conv_name ?Sw20 ?kaw20 ?kbw20 ?_; (case Sw20 => walk_at "mk_sit"); (case kaw20 => k_asm); (case kbw20 => k_asm); k_whole); intro _ _ _ _)
  k_with "call ref" => ((with_reducible show wpAny _ _ (call (Value.ref 83) [_, Value.str _ _] (List.zip _ [Value.bool false])) _ _ _); k_dflt (refine' conv_val ?Sw21 ?kaw21 ?kbw21 ?_; (case Sw21 => walk_at "mk_sit"); (case kaw21 => k_asm); (case kbw21 => k_asm); k_whole); intro _ _ _ _)
  k_with "box" => first | with_reducible assumption | exact Box.tail (by with_reducible assumption) | exact Box.tail (Box.tail (by with_reducible assumption)) | exact Box.tail (Box.tail (Box.tail (by with_reducible assumption))) | exact Box.tail (Box.tail (Box.tail (Box.tail (by with_reducible assumption))))
  k_with "k_mem" => first | with_reducible assumption | exact Box.hx (by with_reducible assumption) | exact Box.hd (by with_reducible assumption) | exact Box.hl (by with_reducible assumption) | exact List.Mem.head _ | (refine' List.Mem.tail _ ?_; k_mem) | (refine' Kept.mem (by with_reducible assumption) ?_ ?_; (k_mem); (first | with_reducible assumption | exact Ne.symm (by with_reducible assumption)))
  k_with "call ref" => ((with_reducible show wpAny _ _ (call (Value.ref 102) [_, Value.str _ _] _) _ _ _); k_dflt (refine' box_del ?Sw24 ?Bw24 ?kaw24 ?kbw24 ?_; (case Sw24 => walk_at "mk_sit"); (case Bw24 => walk_at "box"); (case kaw24 => walk_at "side"); (case kbw24 => walk_at "side"); k_whole); intro _ _ _ _ _ _ _ _ _)
  k_with "call ref" => ((with_reducible show wpAny _ _ (call (Value.ref 123) [_, Value.str _ _] _) _ _ _); k_dflt (refine' box_get ?Sw25 ?Bw25 ?kaw25 ?kbw25 ?_; (case Sw25 => walk_at "mk_sit"); (case Bw25 => walk_at "box"); (case kaw25 => walk_at "side"); (case kbw25 => walk_at "side"); k_whole); intro _ _ _ _ _ _ _ _ _)
  k_with "call ref" => ((with_reducible show wpAny _ _ (call (Value.ref 181) [_, Value.str _ _, Value.none] _) _ _ _); k_dflt (refine' box_none ?Sw26 ?Bw26 ?kaw26 ?kbw26 ?kcw26 ?_; (case Sw26 => walk_at "mk_sit"); (case Bw26 => walk_at "box"); (case kaw26 => walk_at "side"); (case kbw26 => walk_at "side"); (case kcw26 => walk_at "side"); k_whole); intro _ _ _ _ _ _ _ _ _ _)
  k_with "call ref" => ((with_reducible show wpAny _ _ (call (Value.ref 181) [_, Value.str _ _, Value.str _ _] _) _ _ _); k_dflt (refine' box_str ?Sw27 ?Bw27 ?kaw27 ?kbw27 ?kcw27 ?kdw27 ?kew27 ?_; (case Sw27 => walk_at "mk_sit"); (case Bw27 => walk_at "box"); (case kaw27 => walk_at "side"); (case kbw27 => walk_at "side"); (case kcw27 => walk_at "side"); (case kdw27 => walk_at "side"); (case kew27 => walk_at "side"); k_whole); intro _ _ _ _ _ _ _ _ _ _)
  k_with "call ref" => ((show wpAny _ _ (call (Value.ref 148) [Value.ref _]) _ _ _); k_dflt (refine' box_items ?Sw28 ?Bw28 ?_; (case Sw28 => walk_at "mk_sit"); (case Bw28 => walk_at "box"); k_whole); intro _ _ _ _ _ _)
  k_with "side" => first | with_reducible assumption | decide | omega
  k_with "call builtin:len" => (k_dflt (refine' box_len ?Sw30 ?Bw30 ?_; (case Sw30 => walk_at "mk_sit"); (case Bw30 => walk_at "box"); k_whole); intro _ _ _ _ _)
  k_with "call builtin:list.append" => (refine' append_K ?Fw31 ?Nw31 ?hlw31 ?hzw31 ?_; (case Fw31 => k_asm); (case Nw31 => k_asm); (case hlw31 => k_mem); (case hzw31 => (rw [sizeLine_eq]; first | omega | decide)); intro _ _ _ _ _ _)
  k_with "call builtin:list.append" => (refine' box_tell ?Fw32 ?Nw32 ?Bw32 ?htw32 ?hnew32 ?hsw32 ?_; (case Fw32 => k_asm); (case Nw32 => k_asm); (case Bw32 => walk_at "box"); (case htw32 => k_mem); (case hnew32 => assumption); (case hsw32 => walk_at "side"); intro _ _ _ _ _ _ _)
  k_with "call builtin:list.append" => (refine' box_append ?Fw33 ?Nw33 ?Bw33 ?htw33 ?hsw33 ?hzw33 ?_; (case Fw33 => k_asm); (case Nw33 => k_asm); (case Bw33 => walk_at "box"); (case htw33 => exact List.Mem.head _); (case hsw33 => walk_at "side"); (case hzw33 => walk_at "side"); intro _ _ _ _ _ _)
  k_with "exec For Name Call" => refine hold_intro ?_
  k_with "exec For Name Name" => refine hold_intro ?_
  k_with "exec For Name Name cons nil" => refine hold_intro ?_
  k_with "exec For Name Call cons nil" => refine hold_intro ?_
  k_with "kept2" => first | assumption | exact Kept2.start | (refine' Kept2.tail ?_; walk_at "kept2") | (refine' Kept2.left ?kzw38 ?kww38; (case kww38 => assumption); (case kzw38 => walk_at "kept2")) | (refine' Kept2.right ?kzw38 ?kww38; (case kww38 => assumption); (case kzw38 => walk_at "kept2")) | (refine' Kept2.both ?kzw38 ?kww38; (case kww38 => with_reducible assumption); (case kzw38 => walk_at "kept2"))
  k_with "agree" => first | assumption | exact Agree.start | (refine' Agree.set ?_ ?kww39; (case kww39 => decide); walk_at "agree")
  k_with "delItem ref str" => (k_dflt (refine' delItem_own ?Fw40 ?Xw40 ?Iw40 ?hQw40 ?hSw40 ?hFw40 ?_; (case Fw40 => k_asm); (case Xw40 => k_asm); (case Iw40 => k_inst); (case hSw40 => k_is); (case hFw40 => k_is); (case hQw40 => k_is); k_whole))
  k_with "call builtin:len" => (refine' len_L ?Nw41 ?hlw41 ?hsw41 ?_; (case hlw41 => k_mem); (case hsw41 => with_reducible assumption); (case Nw41 => k_asm); intro _ _)
  k_with "call ref" => ((with_reducible show wpAny _ _ (call (Value.ref 83) [_, Value.str _ _] (List.zip _ [Value.bool true])) _ _ _); k_dflt (refine' conv_name_bad ?Sw69 ?kaw69 ?kbw69 ?_; (case kbw69 => with_reducible assumption); (case Sw69 => walk_at "mk_sit"); (case kaw69 => with_reducible assumption); k_whole); intro _ _ _ _ _ _ _ _ _ _ _)
  k_with "call ref" => ((with_reducible show wpAny _ _ (call (Value.ref 83) [_, Value.str _ _] (List.zip _ [Value.bool false])) _ _ _); k_dflt (refine' conv_val_bad ?Sw70 ?kaw70 ?kbw70 ?_; (case kbw70 => with_reducible assumption); (case Sw70 => walk_at "mk_sit"); (case kaw70 => with_reducible assumption); k_whole); intro _ _ _ _ _ _ _ _ _ _ _)
  k_with "call ref" => ((with_reducible show wpAny _ _ (call (Value.ref 83) [_, Value.int _ _] (List.zip _ [Value.bool _])) _ _ _); k_dflt (refine' conv_int_bad ?Sw71 ?k0w71 ?k1w71 ?kyw71 ?_; (case Sw71 => walk_at "mk_sit"); (case k0w71 => with_reducible assumption); (case k1w71 => with_reducible assumption); (case kyw71 => with_reducible assumption); k_whole); intro _ _ _ _ _ _ _ _ _ _ _)
  k_with "leaving ref" => (k_here; (refine' leave_onS ?k1w72 ?k2w72 ?k3w72 ?k4w72 ?_; (case k3w72 => assumption); (case k2w72 => assumption); (case k1w72 => assumption); (case k4w72 => assumption); k_whole; intro _ S' R' U'; (try dsimp only at S' R' U' ⊢); (revert S' R' U'; intro _ _ _)))
  trivial
theorem by_sub {a b : List (Addr × Obj)} {e1 e2 : Addr × Obj} (h : ∀ q ∈ e1 :: e2 :: a, q ∈ b) : ∀ q ∈ a, q ∈ b := fun q hq => h q (.tail _ (.tail _ hq))
/-- the word of add_header's loop over one parameter -/
def ParJ (x₁ x₂ : Str) (pl : Addr) (v : Str) (tv : Tok) (M : Str → Option Value) (n₀ : List (Addr × Obj)) : Nat → (Str → Option Value) → List (Addr × Obj) → Prop := fun i m' n' => (∃ u₁ u₂, m' = over2 x₁ x₂ u₁ u₂ M) ∧ Kept pl n₀ n' ∧ ((i = 0 ∧ ∃ c, (pl, listOf #[.str v tv] c) ∈ n') ∨ (i = 1 ∧ ∃ s ts c, s.length ≤ 100000 ∧ (pl, listOf #[.str v tv, .str s ts] c) ∈ n'))
theorem ParJ.start {x₁ x₂ : Str} {pl : Addr} {v : Str} {tv : Tok} {M : Str → Option Value} {n₀ : List (Addr × Obj)} {c : Nat} {a : Array Value} (h : (pl, listOf a c) ∈ n₀) (ha : a = #[.str v tv]) : ParJ x₁ x₂ pl v tv M n₀ 0 M n₀ := ⟨⟨_, _, (over2_self _ _ _).symm⟩, fun _ h _ => h, .inl ⟨rfl, c, ha ▸ h⟩⟩
theorem ParJ.zero {x₁ x₂ : Str} {pl : Addr} {v : Str} {tv : Tok} {M m' : Str → Option Value} {n₀ n' : List (Addr × Obj)} (h : ParJ x₁ x₂ pl v tv M n₀ 0 m' n') : ∃ c, (pl, listOf #[.str v tv] c) ∈ n' := h.2.2.elim (fun h => h.2) fun h => absurd h.1 (by decide)
theorem ParJ.one {x₁ x₂ : Str} {pl : Addr} {v : Str} {tv : Tok} {M m' : Str → Option Value} {n₀ n' : List (Addr × Obj)} (h : ParJ x₁ x₂ pl v tv M n₀ 1 m' n') : ∃ s ts c, s.length ≤ 100000 ∧ (pl, listOf #[.str v tv, .str s ts] c) ∈ n' := h.2.2.elim (fun h => absurd h.1 (by decide)) fun h => h.2
theorem ParJ.mono {x₁ x₂ : Str} {pl : Addr} {v : Str} {tv : Tok} {M : Str → Option Value} {n₀ : List (Addr × Obj)} (i : Nat) (m : Str → Option Value) (n n' : List (Addr × Obj)) (I : Addr) (h1 : ∀ p ∈ n₀, p.1 ≠ I) (h2 : ∀ p ∈ n, isIter p.2 = false → p.1 ≠ I) (h3 : ParJ x₁ x₂ pl v tv M n₀ i m n) (h4 : ∀ p ∈ n, p.1 ≠ I → p ∈ n') : ParJ x₁ x₂ pl v tv M n₀ i m n' := by
  obtain ⟨a, b, c⟩ := h3
  refine ⟨a, fun q hq hne => h4 q (b q hq hne) (h1 q hq), ?_⟩
  rcases c with ⟨e, c, hm⟩ | ⟨e, s, ts, c, hl, hm⟩
  · exact .inl ⟨e, c, h4 _ hm (h2 _ hm isIter_list)⟩
  · exact .inr ⟨e, s, ts, c, hl, h4 _ hm (h2 _ hm isIter_list)⟩
section
variable {w : World} {A A₀ : Around} {E : Value → Shared → Prop} {s : Shared} {h₀ base : Heap} {env : Env} {outer : List Env} {L x l d : Addr} {tl : Tok} {m mg mb : Str → Option Value} {news : List (Addr × Obj)}
   {p : Program} {loose : List Str} {mean : ExcName → Option Value} {Q : Value → Shared → Prop} {nm : Str} {tk : Tok} {its : Array Value} {n : Nat} {ps : List (Str × Value)}
theorem add_intname {z : Int} {v : Str} {tz tv : Tok} (S : Sit w A A₀ base h₀ env outer L m p loose mean mg mb news s.heap 20) (B : Box w news x l d tl its n ps) (hvm : v.length ≤ 1000) (hvc : ctlIn isCtlV v.cps = false) (hz0 : 0 ≤ z) (hz1 : z < 12) (hy : (Str.ofString (toString z)).length ≤ 100000)
   (h : ∀ e t g h' t' news' tk', Fr h₀ L g m → RaisedS base g (env :: outer) e (.type "AssertionError") t [.str ((Str.ofString "Header names/values must be of type str (got " ++ Str.ofString (toString z)) ++ Str.ofString ")") tk'] news' h' → g.UpToSlots h' → (∀ q ∈ news, q ∈ news') → E (.ref e) {s with heap := h', toks := t'}) :
   wpAny (model pg w) A (call (.ref 181) [.ref x, .int z tz, .str v tv]) Q E s := by
  obtain ⟨KX, T, B', F, N, hA, hf, hke, hroom, hh⟩ := S
  have hlenv : v.length ≤ 2 ^ 24 := by omega
  refine wpAny_call ?_
  walk_at "enter_more"
  k_steps
  refine hold_elim ?_
  rename Obj.IsDictOf .. => hs'
  refine' for_items_exec (KeepJ _ _) ?hh ?F ?N ?hbase ?hline ?ho ?hlo hs' ?hJ ?hl ?j0 ?turn ?done
  case hh => exact hh
  case F => k_asm
  case N => k_asm
  case j0 => exact KeepJ.start
  case hbase => rfl
  case hline => rfl
  case hlo => assumption
  case hJ => exact KeepJ.mono
  case hl => exact fun i m n h => h.2 _ (by k_mem)
  case ho => intro Q' hQ'; k_steps; exact hQ'
  case turn => intro i k v key t m₁ n₁ h tk it e; simp at e
  case done =>
    rintro m₁ n₁ h₂ tk₂ ⟨rfl, hsub⟩ F' N'
    have N' := news_mono N' hsub
    clear hsub
    k_steps
    exact h _ _ _ _ _ _ _ (by assumption) (by assumption) (by assumption) (fun q hq => by_sub (by assumption) q hq)
theorem storeX_P {M : Model} {A : Around} {E : Value → Shared → Prop} {s : Shared} {h₀ : Heap} {L a : Addr} {m : Str → Option Value} {cn : Str} {cs : Scope} {ccd : Value} {cl : List (Str × Addr)} {x : Str} {v : Value} {Q : Unit → Shared → Prop} {news : List (Addr × Obj)} (F : Fr h₀ L s.heap m) (N : News h₀ L s.heap news)
    (h : ∀ h' tk, 0 < tk → Fr h₀ L h' (fun y => if y = x then some v else m y) → News h₀ L h' news → Q () { s with heap := h', toks := tk })
    (hk : cs.kind = .function := by rfl) (hx : (envX cn cs L a ccd cl).kindOf x = some .local := by rfl) : wpAny M A (storeName (envX cn cs L a ccd cl) x v) Q E s :=
  storeX_L F N (fun h' F' N' => h h' _ (Nat.succ_pos _) F' N') hk hx
theorem kw15 : True := by
  k_with "storeName" => (k_here; k_dflt (refine' storeX_P ?Fw65 ?Nw65 ?_ ?aw65 ?bw65; (case aw65 => rfl); (case bw65 => rfl); (case Fw65 => k_asm); (case Nw65 => k_asm); k_whole); intro _ _ _ _ _; (try k_sweep))
  trivial
theorem rep1 : Txt.replace (Str.ofString "the_note") (Str.ofString "_") (Str.ofString "-") = Str.ofString "the-note" := by decide +kernel
theorem rep2 : Txt.replace (Str.ofString "via") (Str.ofString "\\") (Str.ofString "\\\\") = Str.ofString "via" := by decide +kernel
theorem rep3 : Txt.replace (Str.ofString "via") (Str.ofString "\"") (Str.ofString "\\\"") = Str.ofString "via" := by decide +kernel
theorem kw16 : True := by
  k_with "call builtin:str.replace" => (refine' SC.replaceW ?aw66 ?bw66 ?cw66 ?dw66 ?ew66 ?fw66 ?_; (case aw66 => first | exact Nat.succ_ne_zero _ | exact Nat.ne_of_gt (by assumption)); (case bw66 => exact Nat.succ_ne_zero _); (case cw66 => exact Nat.ne_of_lt (Nat.lt_succ_self _)); (case dw66 => decide +kernel); (case ew66 => decide +kernel); (case fw66 => decide +kernel); intro _ _; (try simp only [rep1, rep2, rep3]))
  trivial
theorem replace_none {prog : Program} {w : World} {A : Around} {E : Value → Shared → Prop} {s : Shared} {x y z : Str} {t u v : Tok} {Q : Value → Shared → Prop} (ho : (PySem.Builtin.Str.occurrences x y 0 x.length (x.length + 1)).isEmpty = true)
    (h : Q (.str x t) s) : wpAny (model prog w) A (call (.builtin "str.replace") [.str x t, .str y u, .str z v]) Q E s := by
  refine call_gives F.slot_str_replace (typeIs_str _ _ _) F.entry_str_replace (F.args_str_replace_3 _ _ _)
    (PySem.gives_str_replace x y z t u v fun e => by rw [ho] at e; cases e) ?_
  rw [ho]
  simp only [Bool.true_or, if_true]
  exact h
theorem kw17 : True := by
  k_with "call builtin:str.replace" => (refine' replace_none ?aw67 ?_; (case aw67 => decide +kernel))
  trivial
theorem fmt_via {t u : Tok} (S : Sit w A A₀ base h₀ env outer L m p loose mean mg mb news s.heap 5)
   (h : ∀ h' t' y ty, Fr h₀ L h' m → News h₀ L h' news → y.length ≤ 1000 → Q (.str y ty) {s with heap := h', toks := t'}) :
   wpAny (model pg w) A (call (.ref 61) [.str (Str.ofString "the-note") t, .str (Str.ofString "via") u]) Q E s := by
  obtain ⟨KX, T, B', F, N, hA, hf, hke, hroom, hh⟩ := S
  refine wpAny_call ?_
  k_enter
  k_steps
  exact h _ _ _ _ (by assumption) (by assumption) (by decide +kernel)
theorem kw18 : True := by
  k_with "call ref" => ((with_reducible show wpAny _ _ (call (Value.ref 61) _ _) _ _ _); k_dflt (refine' fmt_via ?Sw68 ?_; (case Sw68 => walk_at "mk_sit"); k_whole); intro _ _ _ _ _ _ _)
  trivial
theorem add_par {v : Str} {tv ty : Tok} (S : Sit w A A₀ base h₀ env outer L m p loose mean mg mb news s.heap 20) (B : Box w news x l d tl its n ps) (hsm : nm.length ≤ 1000) (hclean : ctlIn isCtlN nm.cps = false) (hvm : v.length ≤ 1000) (hvc : ctlIn isCtlV v.cps = false) (hs : ps.length < 1000)
   (h : ∀ h' t' news' its' n' u tu, Fr h₀ L h' m → News h₀ L h' news' → Kept l news news' → Box w news' x l d tl its' n' (ps ++ [(nm, .str u tu)]) → Q .none {s with heap := h', toks := t'}) :
   wpAny (model pg w) A (call (.ref 181) [.ref x, .str nm tk, .str v tv] [(Str.ofString "the_note", .str (Str.ofString "via") ty)]) Q E s := by
  obtain ⟨KX, T, B', F, N, hA, hf, hke, hroom, hh⟩ := S
  have hlen : nm.length ≤ 2 ^ 24 := by omega
  have hlenv : v.length ≤ 2 ^ 24 := by omega
  have k1 : (Str.ofString "via").length ≤ 2 ^ 24 := by decide +kernel
  have k2 : ctlIn isCtlV (Str.ofString "via").cps = false := by decide +kernel
  have k3 : (Str.ofString "the_note").length ≤ 2 ^ 24 := by decide +kernel
  have k4 : ctlIn isCtlN (Str.ofString "the_note").cps = false := by decide +kernel
  refine wpAny_call ?_
  walk_at "enter_more"
  k_steps
  refine hold_elim ?_
  rename Obj.IsDictOf .. => hs'
  rename (_ ∧ AllLt _ _) => z1
  have lt0 := kst_ltOf z1.2
  refine' for_items_exec (ParJ (Str.ofString "k") (Str.ofString "v") _ v tv _ _) ?hh ?F ?N ?hbase ?hline ?ho ?hlo hs' ?hJ ?hl ?j0 ?turn ?done
  case hh => exact hh
  case F => k_asm
  case N => k_asm
  case ho => intro Q' hQ'; k_steps; exact hQ'
  case j0 => exact ParJ.start (List.Mem.head _) rfl
  case hbase => rfl
  case hline => rfl
  case hlo => assumption
  case hJ => exact ParJ.mono
  case hl => exact fun i m n h => h.2.1 _ (by k_mem) (Nat.ne_of_lt z1.1)
  case turn =>
    rintro i k v2 key t m₁ n₁ h₂ tk₂ it e hkey ht hJ him hit F' N'
    cases i with
    | succ i => simp at e
    | zero =>
      cases e
      obtain ⟨c, hm⟩ := hJ.zero
      obtain ⟨⟨u₁, u₂, rfl⟩, hK, -⟩ := hJ
      obtain ⟨tkk, rfl⟩ := Value.isStrOf_shape hkey
      have B1 := B.mono (news' := n₁) fun q hq => hK q (.tail _ (.tail _ hq)) (Nat.ne_of_lt (lt0 q hq))
      have hip := iter_ne N' him hit hm isIter_list
      have hne1 : l ≠ _ := Nat.ne_of_lt (lt0 _ B.hl)
      have hsz1 : (#[Value.str v tv] : Array Value).size ≤ 1000 := by show 1 ≤ 1000; decide
      refine assign_pair hh F' N' ht rfl rfl rfl ?_
      intro h₃ tk₃ F' N'
      k_steps
      refine ⟨_, _, _, _, rfl, by assumption, by assumption, (by assumption : Kept _ n₁ _) _ hit hip, ⟨_, _, over2_over.trans over2_over⟩, fun q hq hne => (by assumption : Kept _ n₁ _) q (hK q hq hne) hne, .inr ⟨rfl, _, _, _, Nat.le_trans (by assumption) (by decide), by assumption⟩⟩
  case done =>
    rintro m₁ n₁ h₂ tk₂ hJ F' N'
    obtain ⟨sx, tsx, c, hsx, hm⟩ := hJ.one
    obtain ⟨⟨u₁, u₂, rfl⟩, hK, -⟩ := hJ
    have B1 := B.mono (news' := n₁) fun q hq => hK q (.tail _ (.tail _ hq)) (Nat.ne_of_lt (lt0 q hq))
    replace N' : News _ _ h₂ (_ :: n₁) := fun q hq => (List.mem_cons.mp hq).elim (fun e => e ▸ N' _ hm) (N' q)
    k_steps
    exact h _ _ _ _ _ _ _ (by assumption) (by assumption) (fun q hq hne => (by assumption : Kept l (_ :: _ :: n₁) _) q (.tail _ (.tail _ (hK q (.tail _ (.tail _ hq)) (Nat.ne_of_lt (lt0 q hq))))) hne) (by walk_at "box")
end
end
section
theorem kw21 : True := by
  w_top off
  k_with_none
  k_with "k_room" => first | ((try simp only [depth_under_make, depth_under_kw, depth_in1, depth_deeper, depth_caller]); omega) | decide
  k_with "code_def" => (refine' code_def ?k1w2 ?k2w2 ?k3w2 ?k4w2 ?k5w2 ?kAw2 ?kFw2 ?kKw2 ?k6w2 ?k7w2 ?k8w2 ?k9w2 ?kBw2 ?_ ?c2w2 ?c3w2 ?c4w2 ?c5w2; (case k1w2 => k_asm); (case k2w2 => k_asm); (case k3w2 => k_asm); (case k4w2 => k_asm); (case k5w2 => k_asm); (case kAw2 => assumption); (case kFw2 => assumption); (case kKw2 => assumption);  (case k6w2 => k_is); (case k7w2 => k_is); (case k8w2 => k_room); (case k9w2 => first | exact BindsTo.of_eq rfl | exact binds_K (by k_in) rfl (by k_is) rfl rfl rfl | fail "k_enter: no rule for these arguments"); (case c5w2 => decide); (case kBw2 => exact locs rfl); (case c2w2 => exact rfl); (case c3w2 => exact rfl); (case c4w2 => exact rfl))
  k_with "code_defC" => (refine' code_defC ?k1w3 ?k2w3 ?k3w3 ?k4w3 ?k5w3 ?kAw3 ?kFw3 ?kKw3 ?k6w3 ?k7w3 ?k8w3 ?k9w3 ?kBw3 ?kDw3 ?_ ?c2w3 ?c3w3 ?c4w3; (case k1w3 => k_asm); (case k2w3 => k_asm); (case k3w3 => k_asm); (case k4w3 => k_asm); (case k5w3 => k_asm); (case kAw3 => assumption); (case kFw3 => assumption); (case kKw3 => assumption); (case k6w3 => k_is); (case k7w3 => k_is); (case k8w3 => k_room); (case k9w3 => first | exact BindsTo.of_eq rfl | exact binds_K (by k_in) rfl (by k_is) rfl rfl rfl | fail "k_enter: no rule for these arguments"); (case kBw3 => exact rfl); (case kDw3 => decide +kernel); (case c2w3 => exact rfl); (case c3w3 => exact rfl); (case c4w3 => exact rfl))
  k_with "k_mem" => first | assumption | exact List.Mem.head _ | (refine' List.Mem.tail _ ?_; k_mem)
  k_with "k_all" => exact all_ne_of_lt (by assumption) (by first | exact Nat.le_refl _ | exact Nat.le_succ _ | omega)
  k_with "call builtin:str.lower" => (refine PyProof.Rows.SCL.lower (by omega) ?_; intro _)
  k_with "eval ListComp" => refine hold_intro ?_
  k_with "eval Slice none none none" => (refine slice_K (by assumption) (by assumption) ?_; intro _ _ _ _; (try k_sweep))
  k_with "setItem ref ref ref" => refine hold_intro ?_
  k_with "exec Assign cons ListComp" => ((with_reducible show wpAny _ _ (exec (Stmt.Assign [Expr.Subscript _ _ _] _ _) _) _ _ _); refine wpAny_Assign_Subscript ?_)
  k_with "call builtin:len" => (refine' len_L ?Nw11 ?hlw11 ?hsw11 ?_; (case Nw11 => k_asm); (case hlw11 => k_mem); (case hsw11 => omega); intro _ _)
  k_with "subscriptTail Name Slice ref ref" => ((with_reducible show wpAny _ _ (subscriptTail _ _ (Value.ref _) (Value.ref _)) _ _ _); refine' copy_L ?Fw12 ?Nw12 ?hlw12 ?hsw12 ?hzw12 ?_ ?hew12; (case Fw12 => k_asm); (case Nw12 => k_asm); (case hlw12 => k_mem); (case hsw12 => exact List.Mem.head _); (case hzw12 => rw [sizeLine_eq]; omega); (case hew12 => with_unfolding_all rfl); intro _ _ _ _ _; (try k_sweep))
  k_with "kp_more" => (refine' kp_more ?k1w13 ?k2w13 ?k3w13 ?k4w13 ?k5w13 ?kAw13 ?kFw13 ?kKw13 ?k6w13 ?k7w13 ?k8w13 ?kXw13 ?kMw13 ?kNw13 ?kDw13 ?kRw13 ?kPw13 ?kTw13 ?kBw13 ?_ ?c2w13 ?c3w13 ?c4w13 ?c5w13; (case kAw13 => assumption); (case kFw13 => assumption); (case kKw13 => assumption); (case k1w13 => k_asm); (case k2w13 => k_asm); (case k3w13 => k_asm); (case k4w13 => k_asm); (case k5w13 => k_asm); (case k6w13 => k_is); (case k7w13 => k_is); (case k8w13 => k_room); (case kXw13 => kp_lit); (case kMw13 => exact rfl); (case kNw13 => exact rfl); (case kDw13 => kp_flats); (case kRw13 => exact rfl); (case kPw13 => exact rfl); (case kTw13 => exact fun _ => rfl); (case kBw13 => exact fun _ => locs rfl); (case c5w13 => decide); (case c2w13 => exact rfl); (case c3w13 => exact rfl); (case c4w13 => exact rfl))
  k_with "exec For Tuple Name" => refine hold_intro ?_
  k_with "exec For Tuple Call" => refine hold_intro ?_
  k_with "exec For Tuple Call cons nil" => refine hold_intro ?_
  k_with "exec For Tuple Name cons nil" => refine hold_intro ?_
  k_with "call builtin:list.append" => (refine' append_L ?Fw18 ?Nw18 ?hlw18 ?_ ?hzw18; (case Fw18 => k_asm); (case Nw18 => k_asm); (case hlw18 => k_mem); (case hzw18 => (rw [sizeLine_eq]; omega)); intro _ _ _)
  k_with "mk_sit" => (refine' Sit.mk ?KXw19 ?Tw19 ?Bw19 ?Fw19 ?Nw19 ?hAw19 ?hfw19 ?hkew19 ?hroomw19 ?hhw19; (case KXw19 => k_asm); (case Tw19 => k_asm); (case Bw19 => k_asm); (case Fw19 => k_asm); (case Nw19 => k_asm); (case hAw19 => first | with_reducible assumption | exact Around.frames_deeper (Below.stack (by with_reducible assumption)) | rfl); (case hfw19 => first | with_reducible assumption | rfl); (case hkew19 => first | with_reducible assumption | rfl); (case hroomw19 => k_room); (case hhw19 => first | with_reducible assumption | exact handled_deeper (by with_reducible assumption) | assumption | rfl))
  k_with "call ref" => ((with_reducible show wpAny _ _ (call (Value.ref 83) [_, Value.str _ _] (List.zip _ [Value.bool true])) _ _ _); k_dflt (refine' conv_name ?Sw20 ?kaw20 ?kbw20 ?_; (case Sw20 => walk_at "mk_sit"); (case kaw20 => k_asm); (case kbw20 => k_asm); k_whole); intro _ _ _ _)
  k_with "call ref" => ((with_reducible show wpAny _ _ (call (Value.ref 83) [_, Value.str _ _] (List.zip _ [Value.bool false])) _ _ _); k_dflt (refine' conv_val ?Sw21 ?kaw21 ?kbw21 ?_; (case Sw21 => walk_at "mk_sit"); (case kaw21 => k_asm); (case kbw21 => k_asm); k_whole); intro _ _ _ _)
  k_with "box" => first | with_reducible assumption | exact Box.tail (by with_reducible assumption) | exact Box.tail (Box.tail (by with_reducible assumption)) | exact Box.tail (Box.tail (Box.tail (by with_reducible assumption))) | exact Box.tail (Box.tail (Box.tail (Box.tail (by with_reducible assumption))))
  k_with "k_mem" => first | with_reducible assumption | exact Box.hx (by with_reducible assumption) | exact Box.hd (by with_reducible assumption) | exact Box.hl (by with_reducible assumption) | exact List.Mem.head _ | (refine' List.Mem.tail _ ?_; k_mem) | (refine' Kept.mem (by with_reducible assumption) ?_ ?_; (k_mem); (first | with_reducible assumption | exact Ne.symm (by with_reducible assumption)))
  k_with "call ref" => ((with_reducible show wpAny _ _ (call (Value.ref 102) [_, Value.str _ _] _) _ _ _); k_dflt (refine' box_del ?Sw24 ?Bw24 ?kaw24 ?kbw24 ?_; (case Sw24 => walk_at "mk_sit"); (case Bw24 => walk_at "box"); (case kaw24 => walk_at "side"); (case kbw24 => walk_at "side"); k_whole); intro _ _ _ _ _ _ _ _ _)
  k_with "call ref" => ((with_reducible show wpAny _ _ (call (Value.ref 123) [_, Value.str _ _] _) _ _ _); k_dflt (refine' box_get ?Sw25 ?Bw25 ?kaw25 ?kbw25 ?_; (case Sw25 => walk_at "mk_sit"); (case Bw25 => walk_at "box"); (case kaw25 => walk_at "side"); (case kbw25 => walk_at "side"); k_whole); intro _ _ _ _ _ _ _ _ _)
  k_with "call ref" => ((with_reducible show wpAny _ _ (call (Value.ref 181) [_, Value.str _ _, Value.none] _) _ _ _); k_dflt (refine' box_none ?Sw26 ?Bw26 ?kaw26 ?kbw26 ?kcw26 ?_; (case Sw26 => walk_at "mk_sit"); (case Bw26 => walk_at "box"); (case kaw26 => walk_at "side"); (case kbw26 => walk_at "side"); (case kcw26 => walk_at "side"); k_whole); intro _ _ _ _ _ _ _ _ _ _)
  k_with "call ref" => ((with_reducible show wpAny _ _ (call (Value.ref 181) [_, Value.str _ _, Value.str _ _] _) _ _ _); k_dflt (refine' box_str ?Sw27 ?Bw27 ?kaw27 ?kbw27 ?kcw27 ?kdw27 ?kew27 ?_; (case Sw27 => walk_at "mk_sit"); (case Bw27 => walk_at "box"); (case kaw27 => walk_at "side"); (case kbw27 => walk_at "side"); (case kcw27 => walk_at "side"); (case kdw27 => walk_at "side"); (case kew27 => walk_at "side"); k_whole); intro _ _ _ _ _ _ _ _ _ _)
  k_with "call ref" => ((show wpAny _ _ (call (Value.ref 148) [Value.ref _]) _ _ _); k_dflt (refine' box_items ?Sw28 ?Bw28 ?_; (case Sw28 => walk_at "mk_sit"); (case Bw28 => walk_at "box"); k_whole); intro _ _ _ _ _ _)
  k_with "side" => first | with_reducible assumption | decide | omega
  k_with "call builtin:len" => (k_dflt (refine' box_len ?Sw30 ?Bw30 ?_; (case Sw30 => walk_at "mk_sit"); (case Bw30 => walk_at "box"); k_whole); intro _ _ _ _ _)
  k_with "call builtin:list.append" => (refine' append_K ?Fw31 ?Nw31 ?hlw31 ?hzw31 ?_; (case Fw31 => k_asm); (case Nw31 => k_asm); (case hlw31 => k_mem); (case hzw31 => (rw [sizeLine_eq]; first | omega | decide)); intro _ _ _ _ _ _)
  k_with "call builtin:list.append" => (refine' box_tell ?Fw32 ?Nw32 ?Bw32 ?htw32 ?hnew32 ?hsw32 ?_; (case Fw32 => k_asm); (case Nw32 => k_asm); (case Bw32 => walk_at "box"); (case htw32 => k_mem); (case hnew32 => assumption); (case hsw32 => walk_at "side"); intro _ _ _ _ _ _ _)
  k_with "call builtin:list.append" => (refine' box_append ?Fw33 ?Nw33 ?Bw33 ?htw33 ?hsw33 ?hzw33 ?_; (case Fw33 => k_asm); (case Nw33 => k_asm); (case Bw33 => walk_at "box"); (case htw33 => exact List.Mem.head _); (case hsw33 => walk_at "side"); (case hzw33 => walk_at "side"); intro _ _ _ _ _ _)
  k_with "exec For Name Call" => refine hold_intro ?_
  k_with "exec For Name Name" => refine hold_intro ?_
  k_with "exec For Name Name cons nil" => refine hold_intro ?_
  k_with "exec For Name Call cons nil" => refine hold_intro ?_
  k_with "kept2" => first | assumption | exact Kept2.start | (refine' Kept2.tail ?_; walk_at "kept2") | (refine' Kept2.left ?kzw38 ?kww38; (case kww38 => assumption); (case kzw38 => walk_at "kept2")) | (refine' Kept2.right ?kzw38 ?kww38; (case kww38 => assumption); (case kzw38 => walk_at "kept2")) | (refine' Kept2.both ?kzw38 ?kww38; (case kww38 => with_reducible assumption); (case kzw38 => walk_at "kept2"))
  k_with "agree" => first | assumption | exact Agree.start | (refine' Agree.set ?_ ?kww39; (case kww39 => decide); walk_at "agree")
  k_with "delItem ref str" => (k_dflt (refine' delItem_own ?Fw40 ?Xw40 ?Iw40 ?hQw40 ?hSw40 ?hFw40 ?_; (case Fw40 => k_asm); (case Xw40 => k_asm); (case Iw40 => k_inst); (case hSw40 => k_is); (case hFw40 => k_is); (case hQw40 => k_is); k_whole))
  k_with "call builtin:len" => (refine' len_L ?Nw41 ?hlw41 ?hsw41 ?_; (case hlw41 => k_mem); (case hsw41 => with_reducible assumption); (case Nw41 => k_asm); intro _ _)
  k_with "call ref" => ((with_reducible show wpAny _ _ (call (Value.ref 83) [_, Value.str _ _] (List.zip _ [Value.bool true])) _ _ _); k_dflt (refine' conv_name_bad ?Sw77 ?kaw77 ?kbw77 ?_; (case kbw77 => with_reducible assumption); (case Sw77 => walk_at "mk_sit"); (case kaw77 => with_reducible assumption); k_whole); intro _ _ _ _ _ _ _ _ _ _ _)
  k_with "call ref" => ((with_reducible show wpAny _ _ (call (Value.ref 83) [_, Value.str _ _] (List.zip _ [Value.bool false])) _ _ _); k_dflt (refine' conv_val_bad ?Sw78 ?kaw78 ?kbw78 ?_; (case kbw78 => with_reducible assumption); (case Sw78 => walk_at "mk_sit"); (case kaw78 => with_reducible assumption); k_whole); intro _ _ _ _ _ _ _ _ _ _ _)
  k_with "call ref" => ((with_reducible show wpAny _ _ (call (Value.ref 83) [_, Value.int _ _] (List.zip _ [Value.bool _])) _ _ _); k_dflt (refine' conv_int_bad ?Sw79 ?k0w79 ?k1w79 ?kyw79 ?_; (case Sw79 => walk_at "mk_sit"); (case k0w79 => with_reducible assumption); (case k1w79 => with_reducible assumption); (case kyw79 => with_reducible assumption); k_whole); intro _ _ _ _ _ _ _ _ _ _ _)
  k_with "leaving ref" => (k_here; (refine' leave_onS ?k1w80 ?k2w80 ?k3w80 ?k4w80 ?_; (case k3w80 => assumption); (case k2w80 => assumption); (case k1w80 => assumption); (case k4w80 => assumption); k_whole; intro _ S' R' U'; (try dsimp only at S' R' U' ⊢); (revert S' R' U'; intro _ _ _)))
  trivial
theorem kw20 : True := by
  k_with "storeName" => (k_here; k_dflt (refine' storeX_P ?Fw73 ?Nw73 ?_ ?aw73 ?bw73; (case aw73 => rfl); (case bw73 => rfl); (case Fw73 => k_asm); (case Nw73 => k_asm); k_whole); intro _ _ _ _ _; (try k_sweep))
  k_with "call builtin:str.replace" => (refine' SC.replaceW ?aw74 ?bw74 ?cw74 ?dw74 ?ew74 ?fw74 ?_; (case aw74 => first | exact Nat.succ_ne_zero _ | exact Nat.ne_of_gt (by assumption)); (case bw74 => exact Nat.succ_ne_zero _); (case cw74 => exact Nat.ne_of_lt (Nat.lt_succ_self _)); (case dw74 => decide +kernel); (case ew74 => decide +kernel); (case fw74 => decide +kernel); intro _ _; (try simp only [rep1, rep2, rep3]))
  k_with "call builtin:str.replace" => (refine' replace_none ?aw75 ?_; (case aw75 => decide +kernel))
  k_with "call ref" => ((with_reducible show wpAny _ _ (call (Value.ref 61) _ _) _ _ _); k_dflt (refine' fmt_via ?Sw76 ?_; (case Sw76 => walk_at "mk_sit"); k_whole); intro _ _ _ _ _ _ _)
  trivial
theorem over2_of {x₁ x₂ : Str} {M m' : Str → Option Value} (h : ∀ y, y ≠ x₁ → y ≠ x₂ → m' y = M y) : ∃ u₁ u₂, m' = over2 x₁ x₂ u₁ u₂ M := ⟨m' x₁, m' x₂, by
  funext y
  unfold over2
  by_cases e2 : y = x₂
  · rw [if_pos e2, e2]
  · rw [if_neg e2]
    by_cases e1 : y = x₁
    · rw [if_pos e1, e1]
    · rw [if_neg e1]
      exact h y e1 e2⟩
section
variable {w : World} {A A₀ : Around} {E : Value → Shared → Prop} {s : Shared} {h₀ base : Heap} {env : Env} {outer : List Env} {L x l d : Addr} {tl : Tok} {m mg mb : Str → Option Value} {news : List (Addr × Obj)}
   {p : Program} {loose : List Str} {mean : ExcName → Option Value} {Q : Value → Shared → Prop} {nm : Str} {tk : Tok} {its : Array Value} {n : Nat} {ps : List (Str × Value)}
theorem add_parnone {v : Str} {tv : Tok} (S : Sit w A A₀ base h₀ env outer L m p loose mean mg mb news s.heap 20) (B : Box w news x l d tl its n ps) (hsm : nm.length ≤ 1000) (hclean : ctlIn isCtlN nm.cps = false) (hvm : v.length ≤ 1000) (hvc : ctlIn isCtlV v.cps = false) (hs : ps.length < 1000)
   (h : ∀ h' t' news' its' n' u tu, Fr h₀ L h' m → News h₀ L h' news' → Kept l news news' → Box w news' x l d tl its' n' (ps ++ [(nm, .str u tu)]) → Q .none {s with heap := h', toks := t'}) :
   wpAny (model pg w) A (call (.ref 181) [.ref x, .str nm tk, .str v tv] [(Str.ofString "the_note", .none)]) Q E s := by
  obtain ⟨KX, T, B', F, N, hA, hf, hke, hroom, hh⟩ := S
  have hlen : nm.length ≤ 2 ^ 24 := by omega
  have hlenv : v.length ≤ 2 ^ 24 := by omega
  have k9 : (Str.ofString "the-note").length ≤ 100000 := by decide +kernel
  have k3 : (Str.ofString "the_note").length ≤ 2 ^ 24 := by decide +kernel
  have k4 : ctlIn isCtlN (Str.ofString "the_note").cps = false := by decide +kernel
  refine wpAny_call ?_
  walk_at "enter_more"
  k_steps
  refine hold_elim ?_
  rename Obj.IsDictOf .. => hs'
  rename (_ ∧ AllLt _ _) => z1
  have lt0 := kst_ltOf z1.2
  refine' for_items_exec (ParJ (Str.ofString "k") (Str.ofString "v") _ v tv _ _) ?hh ?F ?N ?hbase ?hline ?ho ?hlo hs' ?hJ ?hl ?j0 ?turn ?done
  case hh => exact hh
  case F => k_asm
  case N => k_asm
  case ho => intro Q' hQ'; k_steps; exact hQ'
  case j0 => exact ParJ.start (List.Mem.head _) rfl
  case hbase => rfl
  case hline => rfl
  case hlo => assumption
  case hJ => exact ParJ.mono
  case hl => exact fun i m n h => h.2.1 _ (by k_mem) (Nat.ne_of_lt z1.1)
  case turn =>
    rintro i k v2 key t m₁ n₁ h₂ tk₂ it e hkey ht hJ him hit F' N'
    cases i with
    | succ i => simp at e
    | zero =>
      cases e
      obtain ⟨c, hm⟩ := hJ.zero
      obtain ⟨⟨u₁, u₂, rfl⟩, hK, -⟩ := hJ
      obtain ⟨tkk, rfl⟩ := Value.isStrOf_shape hkey
      have B1 := B.mono (news' := n₁) fun q hq => hK q (.tail _ (.tail _ hq)) (Nat.ne_of_lt (lt0 q hq))
      have hip := iter_ne N' him hit hm isIter_list
      have hne1 : l ≠ _ := Nat.ne_of_lt (lt0 _ B.hl)
      have hsz1 : (#[Value.str v tv] : Array Value).size ≤ 1000 := by show 1 ≤ 1000; decide
      refine assign_pair hh F' N' ht rfl rfl rfl ?_
      intro h₃ tk₃ F' N'
      k_steps
      refine ⟨_, _, _, _, rfl, by assumption, by assumption, (by assumption : Kept _ n₁ _) _ hit hip, over2_of (fun y h1 h2 => by simp only [if_neg h1, if_neg h2, over2]), fun q hq hne => (by assumption : Kept _ n₁ _) q (hK q hq hne) hne, .inr ⟨rfl, _, _, _, k9, by assumption⟩⟩
  case done =>
    rintro m₁ n₁ h₂ tk₂ hJ F' N'
    obtain ⟨sx, tsx, c, hsx, hm⟩ := hJ.one
    obtain ⟨⟨u₁, u₂, rfl⟩, hK, -⟩ := hJ
    have B1 := B.mono (news' := n₁) fun q hq => hK q (.tail _ (.tail _ hq)) (Nat.ne_of_lt (lt0 q hq))
    replace N' : News _ _ h₂ (_ :: n₁) := fun q hq => (List.mem_cons.mp hq).elim (fun e => e ▸ N' _ hm) (N' q)
    k_steps
    exact h _ _ _ _ _ _ _ (by assumption) (by assumption) (fun q hq hne => (by assumption : Kept l (_ :: _ :: n₁) _) q (.tail _ (.tail _ (hK q (.tail _ (.tail _ hq)) (Nat.ne_of_lt (lt0 q hq))))) hne) (by walk_at "box")
end
end
section
local macro_rules | `(tactic| walk_at "pad") => `(tactic| fail)
theorem kw23 : True := by
  w_top off
  k_with_none
  k_with "k_room" => first | ((try simp only [depth_under_make, depth_under_kw, depth_in1, depth_deeper, depth_caller]); omega) | decide
  k_with "code_def" => (refine' code_def ?k1w2 ?k2w2 ?k3w2 ?k4w2 ?k5w2 ?kAw2 ?kFw2 ?kKw2 ?k6w2 ?k7w2 ?k8w2 ?k9w2 ?kBw2 ?_ ?c2w2 ?c3w2 ?c4w2 ?c5w2; (case k1w2 => k_asm); (case k2w2 => k_asm); (case k3w2 => k_asm); (case k4w2 => k_asm); (case k5w2 => k_asm); (case kAw2 => assumption); (case kFw2 => assumption); (case kKw2 => assumption);  (case k6w2 => k_is); (case k7w2 => k_is); (case k8w2 => k_room); (case k9w2 => first | exact BindsTo.of_eq rfl | exact binds_K (by k_in) rfl (by k_is) rfl rfl rfl | fail "k_enter: no rule for these arguments"); (case c5w2 => decide); (case kBw2 => exact locs rfl); (case c2w2 => exact rfl); (case c3w2 => exact rfl); (case c4w2 => exact rfl))
  k_with "code_defC" => (refine' code_defC ?k1w3 ?k2w3 ?k3w3 ?k4w3 ?k5w3 ?kAw3 ?kFw3 ?kKw3 ?k6w3 ?k7w3 ?k8w3 ?k9w3 ?kBw3 ?kDw3 ?_ ?c2w3 ?c3w3 ?c4w3; (case k1w3 => k_asm); (case k2w3 => k_asm); (case k3w3 => k_asm); (case k4w3 => k_asm); (case k5w3 => k_asm); (case kAw3 => assumption); (case kFw3 => assumption); (case kKw3 => assumption); (case k6w3 => k_is); (case k7w3 => k_is); (case k8w3 => k_room); (case k9w3 => first | exact BindsTo.of_eq rfl | exact binds_K (by k_in) rfl (by k_is) rfl rfl rfl | fail "k_enter: no rule for these arguments"); (case kBw3 => exact rfl); (case kDw3 => decide +kernel); (case c2w3 => exact rfl); (case c3w3 => exact rfl); (case c4w3 => exact rfl))
  k_with "k_mem" => first | assumption | exact List.Mem.head _ | (refine' List.Mem.tail _ ?_; k_mem)
  k_with "k_all" => exact all_ne_of_lt (by assumption) (by first | exact Nat.le_refl _ | exact Nat.le_succ _ | omega)
  k_with "call builtin:str.lower" => (refine PyProof.Rows.SCL.lower (by omega) ?_; intro _)
  k_with "eval ListComp" => refine hold_intro ?_
  k_with "eval Slice none none none" => (refine slice_K (by assumption) (by assumption) ?_; intro _ _ _ _; (try k_sweep))
  k_with "setItem ref ref ref" => refine hold_intro ?_
  k_with "exec Assign cons ListComp" => ((with_reducible show wpAny _ _ (exec (Stmt.Assign [Expr.Subscript _ _ _] _ _) _) _ _ _); refine wpAny_Assign_Subscript ?_)
  k_with "call builtin:len" => (refine' len_L ?Nw11 ?hlw11 ?hsw11 ?_; (case Nw11 => k_asm); (case hlw11 => k_mem); (case hsw11 => omega); intro _ _)
  k_with "subscriptTail Name Slice ref ref" => ((with_reducible show wpAny _ _ (subscriptTail _ _ (Value.ref _) (Value.ref _)) _ _ _); refine' copy_L ?Fw12 ?Nw12 ?hlw12 ?hsw12 ?hzw12 ?_ ?hew12; (case Fw12 => k_asm); (case Nw12 => k_asm); (case hlw12 => k_mem); (case hsw12 => exact List.Mem.head _); (case hzw12 => rw [sizeLine_eq]; omega); (case hew12 => with_unfolding_all rfl); intro _ _ _ _ _; (try k_sweep))
  k_with "kp_more" => (refine' kp_more ?k1w13 ?k2w13 ?k3w13 ?k4w13 ?k5w13 ?kAw13 ?kFw13 ?kKw13 ?k6w13 ?k7w13 ?k8w13 ?kXw13 ?kMw13 ?kNw13 ?kDw13 ?kRw13 ?kPw13 ?kTw13 ?kBw13 ?_ ?c2w13 ?c3w13 ?c4w13 ?c5w13; (case kAw13 => assumption); (case kFw13 => assumption); (case kKw13 => assumption); (case k1w13 => k_asm); (case k2w13 => k_asm); (case k3w13 => k_asm); (case k4w13 => k_asm); (case k5w13 => k_asm); (case k6w13 => k_is); (case k7w13 => k_is); (case k8w13 => k_room); (case kXw13 => kp_lit); (case kMw13 => exact rfl); (case kNw13 => exact rfl); (case kDw13 => kp_flats); (case kRw13 => exact rfl); (case kPw13 => exact rfl); (case kTw13 => exact fun _ => rfl); (case kBw13 => exact fun _ => locs rfl); (case c5w13 => decide); (case c2w13 => exact rfl); (case c3w13 => exact rfl); (case c4w13 => exact rfl))
  k_with "exec For Tuple Name" => refine hold_intro ?_
  k_with "exec For Tuple Call" => refine hold_intro ?_
  k_with "exec For Tuple Call cons nil" => refine hold_intro ?_
  k_with "exec For Tuple Name cons nil" => refine hold_intro ?_
  k_with "call builtin:list.append" => (refine' append_L ?Fw18 ?Nw18 ?hlw18 ?_ ?hzw18; (case Fw18 => k_asm); (case Nw18 => k_asm); (case hlw18 => k_mem); (case hzw18 => (rw [sizeLine_eq]; omega)); intro _ _ _)
  k_with "mk_sit" => (refine' Sit.mk ?KXw19 ?Tw19 ?Bw19 ?Fw19 ?Nw19 ?hAw19 ?hfw19 ?hkew19 ?hroomw19 ?hhw19; (case KXw19 => k_asm); (case Tw19 => k_asm); (case Bw19 => k_asm); (case Fw19 => k_asm); (case Nw19 => k_asm); (case hAw19 => first | with_reducible assumption | exact Around.frames_deeper (Below.stack (by with_reducible assumption)) | rfl); (case hfw19 => first | with_reducible assumption | rfl); (case hkew19 => first | with_reducible assumption | rfl); (case hroomw19 => k_room); (case hhw19 => first | with_reducible assumption | exact handled_deeper (by with_reducible assumption) | assumption | rfl))
  k_with "call ref" => ((with_reducible show wpAny _ _ (call (Value.ref 83) [_, Value.str _ _] (List.zip _ [Value.bool true])) _ _ _); k_dflt (refine' conv_name ?Sw20 ?kaw20 ?kbw20 ?_; (case Sw20 => walk_at "mk_sit"); (case kaw20 => k_asm); (case kbw20 => k_asm); k_whole); intro _ _ _ _)
  k_with "call ref" => ((with_reducible show wpAny _ _ (call (Value.ref 83) [_, Value.str _ _] (List.zip _ [Value.bool false])) _ _ _); k_dflt (refine' conv_val ?Sw21 ?kaw21 ?kbw21 ?_; (case Sw21 => walk_at "mk_sit"); (case kaw21 => k_asm); (case kbw21 => k_asm); k_whole); intro _ _ _ _)
  k_with "box" => first | with_reducible assumption | exact Box.tail (by with_reducible assumption) | exact Box.tail (Box.tail (by with_reducible assumption)) | exact Box.tail (Box.tail (Box.tail (by with_reducible assumption))) | exact Box.tail (Box.tail (Box.tail (Box.tail (by with_reducible assumption))))
  k_with "k_mem" => first | with_reducible assumption | exact Box.hx (by with_reducible assumption) | exact Box.hd (by with_reducible assumption) | exact Box.hl (by with_reducible assumption) | exact List.Mem.head _ | (refine' List.Mem.tail _ ?_; k_mem) | (refine' Kept.mem (by with_reducible assumption) ?_ ?_; (k_mem); (first | with_reducible assumption | exact Ne.symm (by with_reducible assumption)))
  k_with "call ref" => ((with_reducible show wpAny _ _ (call (Value.ref 102) [_, Value.str _ _] _) _ _ _); k_dflt (refine' box_del ?Sw24 ?Bw24 ?kaw24 ?kbw24 ?_; (case Sw24 => walk_at "mk_sit"); (case Bw24 => walk_at "box"); (case kaw24 => walk_at "side"); (case kbw24 => walk_at "side"); k_whole); intro _ _ _ _ _ _ _ _ _)
  k_with "call ref" => ((with_reducible show wpAny _ _ (call (Value.ref 123) [_, Value.str _ _] _) _ _ _); k_dflt (refine' box_get ?Sw25 ?Bw25 ?kaw25 ?kbw25 ?_; (case Sw25 => walk_at "mk_sit"); (case Bw25 => walk_at "box"); (case kaw25 => walk_at "side"); (case kbw25 => walk_at "side"); k_whole); intro _ _ _ _ _ _ _ _ _)
  k_with "call ref" => ((with_reducible show wpAny _ _ (call (Value.ref 181) [_, Value.str _ _, Value.none] _) _ _ _); k_dflt (refine' box_none ?Sw26 ?Bw26 ?kaw26 ?kbw26 ?kcw26 ?_; (case Sw26 => walk_at "mk_sit"); (case Bw26 => walk_at "box"); (case kaw26 => walk_at "side"); (case kbw26 => walk_at "side"); (case kcw26 => walk_at "side"); k_whole); intro _ _ _ _ _ _ _ _ _ _)
  k_with "call ref" => ((with_reducible show wpAny _ _ (call (Value.ref 181) [_, Value.str _ _, Value.str _ _] _) _ _ _); k_dflt (refine' box_str ?Sw27 ?Bw27 ?kaw27 ?kbw27 ?kcw27 ?kdw27 ?kew27 ?_; (case Sw27 => walk_at "mk_sit"); (case Bw27 => walk_at "box"); (case kaw27 => walk_at "side"); (case kbw27 => walk_at "side"); (case kcw27 => walk_at "side"); (case kdw27 => walk_at "side"); (case kew27 => walk_at "side"); k_whole); intro _ _ _ _ _ _ _ _ _ _)
  k_with "call ref" => ((show wpAny _ _ (call (Value.ref 148) [Value.ref _]) _ _ _); k_dflt (refine' box_items ?Sw28 ?Bw28 ?_; (case Sw28 => walk_at "mk_sit"); (case Bw28 => walk_at "box"); k_whole); intro _ _ _ _ _ _)
  k_with "side" => first | with_reducible assumption | decide | omega
  k_with "call builtin:len" => (k_dflt (refine' box_len ?Sw30 ?Bw30 ?_; (case Sw30 => walk_at "mk_sit"); (case Bw30 => walk_at "box"); k_whole); intro _ _ _ _ _)
  k_with "call builtin:list.append" => (refine' append_K ?Fw31 ?Nw31 ?hlw31 ?hzw31 ?_; (case Fw31 => k_asm); (case Nw31 => k_asm); (case hlw31 => k_mem); (case hzw31 => (rw [sizeLine_eq]; first | omega | decide)); intro _ _ _ _ _ _)
  k_with "call builtin:list.append" => (refine' box_tell ?Fw32 ?Nw32 ?Bw32 ?htw32 ?hnew32 ?hsw32 ?_; (case Fw32 => k_asm); (case Nw32 => k_asm); (case Bw32 => walk_at "box"); (case htw32 => k_mem); (case hnew32 => assumption); (case hsw32 => walk_at "side"); intro _ _ _ _ _ _ _)
  k_with "call builtin:list.append" => (refine' box_append ?Fw33 ?Nw33 ?Bw33 ?htw33 ?hsw33 ?hzw33 ?_; (case Fw33 => k_asm); (case Nw33 => k_asm); (case Bw33 => walk_at "box"); (case htw33 => exact List.Mem.head _); (case hsw33 => walk_at "side"); (case hzw33 => walk_at "side"); intro _ _ _ _ _ _)
  k_with "exec For Name Call" => refine hold_intro ?_
  k_with "exec For Name Name" => refine hold_intro ?_
  k_with "exec For Name Name cons nil" => refine hold_intro ?_
  k_with "exec For Name Call cons nil" => refine hold_intro ?_
  k_with "kept2" => first | assumption | exact Kept2.start | (refine' Kept2.tail ?_; walk_at "kept2") | (refine' Kept2.left ?kzw38 ?kww38; (case kww38 => assumption); (case kzw38 => walk_at "kept2")) | (refine' Kept2.right ?kzw38 ?kww38; (case kww38 => assumption); (case kzw38 => walk_at "kept2")) | (refine' Kept2.both ?kzw38 ?kww38; (case kww38 => with_reducible assumption); (case kzw38 => walk_at "kept2"))
  k_with "agree" => first | assumption | exact Agree.start | (refine' Agree.set ?_ ?kww39; (case kww39 => decide); walk_at "agree")
  k_with "delItem ref str" => (k_dflt (refine' delItem_own ?Fw40 ?Xw40 ?Iw40 ?hQw40 ?hSw40 ?hFw40 ?_; (case Fw40 => k_asm); (case Xw40 => k_asm); (case Iw40 => k_inst); (case hSw40 => k_is); (case hFw40 => k_is); (case hQw40 => k_is); k_whole))
  k_with "call builtin:len" => (refine' len_L ?Nw41 ?hlw41 ?hsw41 ?_; (case hlw41 => k_mem); (case hsw41 => with_reducible assumption); (case Nw41 => k_asm); intro _ _)
  k_with "call ref" => ((with_reducible show wpAny _ _ (call (Value.ref 83) [_, Value.str _ _] (List.zip _ [Value.bool true])) _ _ _); k_dflt (refine' conv_name_bad ?Sw86 ?kaw86 ?kbw86 ?_; (case kbw86 => with_reducible assumption); (case Sw86 => walk_at "mk_sit"); (case kaw86 => with_reducible assumption); k_whole); intro _ _ _ _ _ _ _ _ _ _ _)
  k_with "call ref" => ((with_reducible show wpAny _ _ (call (Value.ref 83) [_, Value.str _ _] (List.zip _ [Value.bool false])) _ _ _); k_dflt (refine' conv_val_bad ?Sw87 ?kaw87 ?kbw87 ?_; (case kbw87 => with_reducible assumption); (case Sw87 => walk_at "mk_sit"); (case kaw87 => with_reducible assumption); k_whole); intro _ _ _ _ _ _ _ _ _ _ _)
  k_with "call ref" => ((with_reducible show wpAny _ _ (call (Value.ref 83) [_, Value.int _ _] (List.zip _ [Value.bool _])) _ _ _); k_dflt (refine' conv_int_bad ?Sw88 ?k0w88 ?k1w88 ?kyw88 ?_; (case Sw88 => walk_at "mk_sit"); (case k0w88 => with_reducible assumption); (case k1w88 => with_reducible assumption); (case kyw88 => with_reducible assumption); k_whole); intro _ _ _ _ _ _ _ _ _ _ _)
  k_with "leaving ref" => (k_here; (refine' leave_onS ?k1w89 ?k2w89 ?k3w89 ?k4w89 ?_; (case k3w89 => assumption); (case k2w89 => assumption); (case k1w89 => assumption); (case k4w89 => assumption); k_whole; intro _ S' R' U'; (try dsimp only at S' R' U' ⊢); (revert S' R' U'; intro _ _ _)))
  trivial
theorem kw22 : True := by
  k_with "storeName" => (k_here; k_dflt (refine' storeX_P ?Fw81 ?Nw81 ?_ ?aw81 ?bw81; (case aw81 => rfl); (case bw81 => rfl); (case Fw81 => k_asm); (case Nw81 => k_asm); k_whole); intro _ _ _ _ _; (try k_sweep))
  k_with "call builtin:str.replace" => (refine' SC.replaceW ?aw82 ?bw82 ?cw82 ?dw82 ?ew82 ?fw82 ?_; (case aw82 => first | exact Nat.succ_ne_zero _ | exact Nat.ne_of_gt (by assumption)); (case bw82 => exact Nat.succ_ne_zero _); (case cw82 => exact Nat.ne_of_lt (Nat.lt_succ_self _)); (case dw82 => decide +kernel); (case ew82 => decide +kernel); (case fw82 => decide +kernel); intro _ _; (try simp only [rep1, rep2, rep3]))
  k_with "call builtin:str.replace" => (refine' replace_none ?aw83 ?_; (case aw83 => decide +kernel))
  k_with "call ref" => ((with_reducible show wpAny _ _ (call (Value.ref 61) _ _) _ _ _); k_dflt (refine' fmt_via ?Sw84 ?_; (case Sw84 => walk_at "mk_sit"); k_whole); intro _ _ _ _ _ _ _)
  k_with "leaving ref" => (k_here; (refine' leave_heldS ?k3w85 ?k2w85 ?k4w85 ?_; (case k3w85 => assumption); (case k2w85 => assumption); (case k4w85 => assumption); k_whole; intro _ S' R' U'; (try dsimp only at S' R' U' ⊢); (revert S' R' U'; intro _ _ _)))
  trivial
def Zero (M : Str → Option Value) (n₀ : List (Addr × Obj)) : Nat → (Str → Option Value) → List (Addr × Obj) → Prop := fun i m' n' => i = 0 ∧ KeepJ M n₀ i m' n'
theorem Zero.start {M : Str → Option Value} {n₀ : List (Addr × Obj)} : Zero M n₀ 0 M n₀ := ⟨rfl, KeepJ.start⟩
theorem Zero.mono {M : Str → Option Value} {n₀ : List (Addr × Obj)} (i : Nat) (m : Str → Option Value) (n n' : List (Addr × Obj)) (I : Addr) (h1 : ∀ p ∈ n₀, p.1 ≠ I) (h2 : ∀ p ∈ n, isIter p.2 = false → p.1 ≠ I) (h3 : Zero M n₀ i m n) (h4 : ∀ p ∈ n, p.1 ≠ I → p ∈ n') : Zero M n₀ i m n' := ⟨h3.1, KeepJ.mono i m n n' I h1 h2 h3.2 h4⟩
section
variable {w : World} {A A₀ : Around} {E : Value → Shared → Prop} {s : Shared} {h₀ base : Heap} {env : Env} {outer : List Env} {L x l d : Addr} {tl : Tok} {m mg mb : Str → Option Value} {news : List (Addr × Obj)}
   {p : Program} {loose : List Str} {mean : ExcName → Option Value} {Q : Value → Shared → Prop} {nm : Str} {tk : Tok} {its : Array Value} {n : Nat} {ps : List (Str × Value)}
theorem add_parbad {v : Str} {y : Str} {tv ty : Tok} (S : Sit w A A₀ base h₀ env outer L m p loose mean mg mb news s.heap 20) (B : Box w news x l d tl its n ps) (hsm : nm.length ≤ 1000) (hclean : ctlIn isCtlN nm.cps = false) (hvm : v.length ≤ 1000) (hvc : ctlIn isCtlV v.cps = false) (hym : y.length ≤ 1000) (hyc : ctlIn isCtlV y.cps = true)
   (h : ∀ e t g h' t' news' tk', Fr h₀ L g m → RaisedS base g (env :: outer) e (.type "ValueError") t [.str (Str.ofString "Control characters not allowed in headers") tk'] news' h' → g.UpToSlots h' → (∀ q ∈ news, q ∈ news') → E (.ref e) {s with heap := h', toks := t'}) :
   wpAny (model pg w) A (call (.ref 181) [.ref x, .str nm tk, .str v tv] [(Str.ofString "the_note", .str y ty)]) Q E s := by
  obtain ⟨KX, T, B', F, N, hA, hf, hke, hroom, hh⟩ := S
  have hlen : nm.length ≤ 2 ^ 24 := by omega
  have hlenv : v.length ≤ 2 ^ 24 := by omega
  have hleny : y.length ≤ 2 ^ 24 := by omega
  have k3 : (Str.ofString "the_note").length ≤ 2 ^ 24 := by decide +kernel
  have k4 : ctlIn isCtlN (Str.ofString "the_note").cps = false := by decide +kernel
  refine wpAny_call ?_
  walk_at "enter_more"
  k_steps
  refine hold_elim ?_
  rename Obj.IsDictOf .. => hs'
  rename (_ ∧ AllLt _ _) => z1
  have lt0 := kst_ltOf z1.2
  refine' for_items_exec (Zero _ _) ?hh ?F ?N ?hbase ?hline ?ho ?hlo hs' ?hJ ?hl ?j0 ?turn ?done
  case hh => exact hh
  case F => k_asm
  case N => k_asm
  case ho => intro Q' hQ'; k_steps; exact hQ'
  case j0 => exact Zero.start
  case hbase => rfl
  case hline => rfl
  case hlo => assumption
  case hJ => exact Zero.mono
  case hl => exact fun i m n h => h.2.2 _ (by k_mem)
  case turn =>
    rintro i k v2 key t m₁ n₁ h₂ tk₂ it e hkey ht hJ him hit F' N'
    cases i with
    | succ i => simp at e
    | zero =>
      cases e
      obtain ⟨-, rfl, hK⟩ := hJ
      obtain ⟨tkk, rfl⟩ := Value.isStrOf_shape hkey
      have B1 := B.mono (news' := n₁) fun q hq => hK q (.tail _ (.tail _ hq))
      refine assign_pair hh F' N' ht rfl rfl rfl ?_
      intro h₃ tk₃ F' N'
      k_steps
      refine noted_back (Around.frames_deeper (Below.stack (by assumption))) (by assumption) (by assumption) ?_
      intro h₅ RH U5
      k_steps
      exact h _ _ _ _ _ _ _ (by assumption) (by assumption) (by assumption) (fun q hq => (by assumption : ∀ q ∈ n₁, q ∈ _) q (hK q (.tail _ (.tail _ hq))))
  case done =>
    rintro m₁ n₁ h₂ tk₂ ⟨h1, _⟩ F' N'
    cases h1
end
end
end
end
section
theorem kw24 : True := by
  w_top off
  k_with_none
  k_with "k_room" => first | ((try simp only [depth_under_make, depth_under_kw, depth_in1, depth_deeper, depth_caller]); omega) | decide
  k_with "code_def" => (refine' code_def ?k1w2 ?k2w2 ?k3w2 ?k4w2 ?k5w2 ?kAw2 ?kFw2 ?kKw2 ?k6w2 ?k7w2 ?k8w2 ?k9w2 ?kBw2 ?_ ?c2w2 ?c3w2 ?c4w2 ?c5w2; (case k1w2 => k_asm); (case k2w2 => k_asm); (case k3w2 => k_asm); (case k4w2 => k_asm); (case k5w2 => k_asm); (case kAw2 => assumption); (case kFw2 => assumption); (case kKw2 => assumption);  (case k6w2 => k_is); (case k7w2 => k_is); (case k8w2 => k_room); (case k9w2 => first | exact BindsTo.of_eq rfl | exact binds_K (by k_in) rfl (by k_is) rfl rfl rfl | fail "k_enter: no rule for these arguments"); (case c5w2 => decide); (case kBw2 => exact locs rfl); (case c2w2 => exact rfl); (case c3w2 => exact rfl); (case c4w2 => exact rfl))
  k_with "code_defC" => (refine' code_defC ?k1w3 ?k2w3 ?k3w3 ?k4w3 ?k5w3 ?kAw3 ?kFw3 ?kKw3 ?k6w3 ?k7w3 ?k8w3 ?k9w3 ?kBw3 ?kDw3 ?_ ?c2w3 ?c3w3 ?c4w3; (case k1w3 => k_asm); (case k2w3 => k_asm); (case k3w3 => k_asm); (case k4w3 => k_asm); (case k5w3 => k_asm); (case kAw3 => assumption); (case kFw3 => assumption); (case kKw3 => assumption); (case k6w3 => k_is); (case k7w3 => k_is); (case k8w3 => k_room); (case k9w3 => first | exact BindsTo.of_eq rfl | exact binds_K (by k_in) rfl (by k_is) rfl rfl rfl | fail "k_enter: no rule for these arguments"); (case kBw3 => exact rfl); (case kDw3 => decide +kernel); (case c2w3 => exact rfl); (case c3w3 => exact rfl); (case c4w3 => exact rfl))
  k_with "k_mem" => first | assumption | exact List.Mem.head _ | (refine' List.Mem.tail _ ?_; k_mem)
  k_with "k_all" => exact all_ne_of_lt (by assumption) (by first | exact Nat.le_refl _ | exact Nat.le_succ _ | omega)
  k_with "call builtin:str.lower" => (refine PyProof.Rows.SCL.lower (by omega) ?_; intro _)
  k_with "eval ListComp" => refine hold_intro ?_
  k_with "eval Slice none none none" => (refine slice_K (by assumption) (by assumption) ?_; intro _ _ _ _; (try k_sweep))
  k_with "setItem ref ref ref" => refine hold_intro ?_
  k_with "exec Assign cons ListComp" => ((with_reducible show wpAny _ _ (exec (Stmt.Assign [Expr.Subscript _ _ _] _ _) _) _ _ _); refine wpAny_Assign_Subscript ?_)
  k_with "call builtin:len" => (refine' len_L ?Nw11 ?hlw11 ?hsw11 ?_; (case Nw11 => k_asm); (case hlw11 => k_mem); (case hsw11 => omega); intro _ _)
  k_with "subscriptTail Name Slice ref ref" => ((with_reducible show wpAny _ _ (subscriptTail _ _ (Value.ref _) (Value.ref _)) _ _ _); refine' copy_L ?Fw12 ?Nw12 ?hlw12 ?hsw12 ?hzw12 ?_ ?hew12; (case Fw12 => k_asm); (case Nw12 => k_asm); (case hlw12 => k_mem); (case hsw12 => exact List.Mem.head _); (case hzw12 => rw [sizeLine_eq]; omega); (case hew12 => with_unfolding_all rfl); intro _ _ _ _ _; (try k_sweep))
  k_with "kp_more" => (refine' kp_more ?k1w13 ?k2w13 ?k3w13 ?k4w13 ?k5w13 ?kAw13 ?kFw13 ?kKw13 ?k6w13 ?k7w13 ?k8w13 ?kXw13 ?kMw13 ?kNw13 ?kDw13 ?kRw13 ?kPw13 ?kTw13 ?kBw13 ?_ ?c2w13 ?c3w13 ?c4w13 ?c5w13; (case kAw13 => assumption); (case kFw13 => assumption); (case kKw13 => assumption); (case k1w13 => k_asm); (case k2w13 => k_asm); (case k3w13 => k_asm); (case k4w13 => k_asm); (case k5w13 => k_asm); (case k6w13 => k_is); (case k7w13 => k_is); (case k8w13 => k_room); (case kXw13 => kp_lit); (case kMw13 => exact rfl); (case kNw13 => exact rfl); (case kDw13 => kp_flats); (case kRw13 => exact rfl); (case kPw13 => exact rfl); (case kTw13 => exact fun _ => rfl); (case kBw13 => exact fun _ => locs rfl); (case c5w13 => decide); (case c2w13 => exact rfl); (case c3w13 => exact rfl); (case c4w13 => exact rfl))
  k_with "exec For Tuple Name" => refine hold_intro ?_
  k_with "exec For Tuple Call" => refine hold_intro ?_
  k_with "exec For Tuple Call cons nil" => refine hold_intro ?_
  k_with "exec For Tuple Name cons nil" => refine hold_intro ?_
  k_with "call builtin:list.append" => (refine' append_L ?Fw18 ?Nw18 ?hlw18 ?_ ?hzw18; (case Fw18 => k_asm); (case Nw18 => k_asm); (case hlw18 => k_mem); (case hzw18 => (rw [sizeLine_eq]; omega)); intro _ _ _)
  k_with "mk_sit" => (refine' Sit.mk ?KXw19 ?Tw19 ?Bw19 ?Fw19 ?Nw19 ?hAw19 ?hfw19 ?hkew19 ?hroomw19 ?hhw19; (case KXw19 => k_asm); (case Tw19 => k_asm); (case Bw19 => k_asm); (case Fw19 => k_asm); (case Nw19 => k_asm); (case hAw19 => first | with_reducible assumption | exact Around.frames_deeper (Below.stack (by with_reducible assumption)) | rfl); (case hfw19 => first | with_reducible assumption | rfl); (case hkew19 => first | with_reducible assumption | rfl); (case hroomw19 => k_room); (case hhw19 => first | with_reducible assumption | exact handled_deeper (by with_reducible assumption) | assumption | rfl))
  k_with "call ref" => ((with_reducible show wpAny _ _ (call (Value.ref 83) [_, Value.str _ _] (List.zip _ [Value.bool true])) _ _ _); k_dflt (refine' conv_name ?Sw20 ?kaw20 ?kbw20 ?_; (case Sw20 => walk_at "mk_sit"); (case kaw20 => k_asm); (case kbw20 => k_asm); k_whole); intro _ _ _ _)
  k_with "call ref" => ((with_reducible show wpAny _ _ (call (Value.ref 83) [_, Value.str _ _] (List.zip _ [Value.bool false])) _ _ _); k_dflt (refine' conv_val ?Sw21 ?kaw21 ?kbw21 ?_; (case Sw21 => walk_at "mk_sit"); (case kaw21 => k_asm); (case kbw21 => k_asm); k_whole); intro _ _ _ _)
  trivial
theorem lt_snoc {a : List (Str × Value)} {q : Str × Value} (h : a.length < 990) : (a ++ [q]).length < 1000 := by
  rw [List.length_append]
  show a.length + 1 < 1000
  omega
theorem lt_snoc2 {a : List (Str × Value)} {q r : Str × Value} (h : a.length < 980) : ((a ++ [q]) ++ [r]).length < 1000 := by
  rw [List.length_append, List.length_append]
  show a.length + 1 + 1 < 1000
  omega
theorem Kept.trans {l : Addr} {a b c : List (Addr × Obj)} (h1 : Kept l a b) (h2 : Kept l b c) : Kept l a c := fun q hq hne => h2 q (h1 q hq hne) hne
theorem Kept.off {l : Addr} {e : Addr × Obj} {a b : List (Addr × Obj)} (h1 : Kept l (e :: a) b) : Kept l a b := fun q hq hne => h1 q (.tail _ hq) hne
theorem Kept.with {l : Addr} {a b c : List (Addr × Obj)} (h1 : Kept l a b) (h2 : ∀ q ∈ b, q ∈ c) : Kept l a c := fun q hq hne => h2 q (h1 q hq hne)
theorem Kept.refl {l : Addr} {a : List (Addr × Obj)} : Kept l a a := fun _ h _ => h
theorem leaveT_box {w : World} {es : List Env} {h₀ g g' : Heap} {L L' : Addr} {m m' : Str → Option Value} {news' : List (Addr × Obj)} {v : Value} {s' : Shared} {R : Result → Shared → Prop} {x l d : Addr} {tl : Tok} {its : Array Value} {n : Nat} {ps : List (Str × Value)} (_B : Box w news' x l d tl its n ps) (T : KtsTurn (es.filterMap (·.frame)) g g') (F : Fr g' L' s'.heap m') (N : News g' L' s'.heap news') (k : Fr h₀ L s'.heap m → News h₀ L s'.heap news' → R (.ok (.ret v)) s') : LeaveT es h₀ L m g R v s' := leaveT_ T F N k
theorem getv_none_of {ps : List (Str × Value)} {key : Str} (h : ∀ q ∈ ps, Txt.lower q.1 ≠ key) : getv ps key = .none :=
  getv_no fun j _ q hq => beq_eq_false_iff_ne.mpr (h q (List.mem_of_getElem? hq))
theorem getv_snoc {ps : List (Str × Value)} {key a : Str} {v : Value} (h : ∀ q ∈ ps, Txt.lower q.1 ≠ key) (he : Txt.lower a = key) : getv (ps ++ [(a, v)]) key = v := by
  refine (getv_at (i := ps.length) (q := (a, v)) (by simp) (beq_iff_eq.mpr he) fun j hj q hq => ?_)
  rw [List.getElem?_append_left hj] at hq
  exact beq_eq_false_iff_ne.mpr (h q (List.mem_of_getElem? hq))
theorem err_eq (d : Str) : Str.ofString "AssertionError " ++ ((Str.ofString "Header names/values must be of type str (got " ++ d) ++ Str.ofString ")") = (Str.ofString "AssertionError Header names/values must be of type str (got " ++ d) ++ Str.ofString ")" := by
  have e : Str.ofString "AssertionError Header names/values must be of type str (got " = Str.ofString "AssertionError " ++ Str.ofString "Header names/values must be of type str (got " := by decide +kernel
  rw [e]
  apply congrArg Str.mk
  simp only [PySem.Str.cps_append, Array.append_assoc]
def errC : Str := Str.ofString "ValueError Control characters not allowed in headers"
theorem errC_eq : Str.ofString "ValueError " ++ Str.ofString "Control characters not allowed in headers" = errC := by decide +kernel
def errA (z : Int) : Str := (Str.ofString "AssertionError Header names/values must be of type str (got " ++ Str.ofString (toString z)) ++ Str.ofString ")"
def viaS : Str := Str.ofString "via"
/-- what a deed does to a table: so many pairs more, the new ones of this name or of via -/
def Did (ps ps' : List (Str × Value)) (c : Nat) (a : Str) : Prop := ps'.length = ps.length + c ∧ ∀ q ∈ ps', q ∈ ps ∨ Txt.lower q.1 = a ∨ q.1 = viaS
theorem Did.same {ps : List (Str × Value)} {a : Str} : Did ps ps 0 a := ⟨rfl, fun _ h => .inl h⟩
theorem Did.one {ps : List (Str × Value)} {a b : Str} {v : Value} (h : Txt.lower b = a ∨ b = viaS) : Did ps (ps ++ [(b, v)]) 1 a := ⟨by rw [List.length_append]; rfl, fun q hq => (List.mem_append.mp hq).elim .inl fun hq => .inr (by rw [List.mem_singleton.mp hq]; exact h)⟩
structure Txts (deed : Int) (text first second : Str) : Prop where
  f1 : first.length ≤ 1000
  f2 : ctlIn isCtlN first.cps = false
  f3 : ctlIn isCtlN (Txt.lower first).cps = false
  s1 : second.length ≤ 1000
  s2 : ctlIn isCtlN second.cps = false
  s3 : ctlIn isCtlN (Txt.lower second).cps = false
  he : Txt.lower second = Txt.lower first
  htm : text.length ≤ 1000
  htc : ctlIn isCtlV text.cps = false
  d0 : 0 ≤ deed
  d1 : deed < 12
  b7 : ctlIn isCtlV (text ++ ⟨#[(20 + deed).toNat]⟩).cps = true
  b9 : ctlIn isCtlV (Str.ofString "\x7f" ++ text).cps = true
  b10 : ctlIn isCtlN (Txt.lower (first ++ ⟨#[deed.toNat]⟩)).cps = true
  n7 : (text ++ ⟨#[(20 + deed).toNat]⟩).length ≤ 1000
  n9 : (Str.ofString "\x7f" ++ text).length ≤ 1000
  n10 : (first ++ ⟨#[deed.toNat]⟩).length ≤ 1000
  hy : (Str.ofString (toString deed)).length ≤ 100000
theorem filter_no {ps : List (Str × Value)} {key : Str} (hno : ∀ q ∈ ps, Txt.lower q.1 ≠ key) : (ps.filter (fun q => !(Txt.lower q.1 == key))) = ps := List.filter_eq_self.mpr fun q hq => by rw [beq_eq_false_iff_ne.mpr (hno q hq)]; rfl
theorem filter_one {ps : List (Str × Value)} {key a : Str} {v : Value} (hno : ∀ q ∈ ps, Txt.lower q.1 ≠ key) (he : Txt.lower a = key) : ((ps ++ [(a, v)]).filter (fun q => !(Txt.lower q.1 == key))) = ps := by
  rw [List.filter_append, filter_no hno, List.filter_cons_of_neg (by rw [beq_iff_eq.mpr he]; decide)]
  exact List.append_nil _
theorem filter_two {ps : List (Str × Value)} {key a b : Str} {u v : Value} (hno : ∀ q ∈ ps, Txt.lower q.1 ≠ key) (ha : Txt.lower a = key) (hb : Txt.lower b = key) : (((ps ++ [(a, u)]) ++ [(b, v)]).filter (fun q => !(Txt.lower q.1 == key))) = ps := by
  rw [List.filter_append, filter_one hno ha, List.filter_cons_of_neg (by rw [beq_iff_eq.mpr hb]; decide)]
  exact List.append_nil _
end
section

section
local macro_rules | `(tactic| walk_at "enter_try") => `(tactic| (walk_at "code_try"; k_whole; intro g' L' h' tk' FG' F' N' B' X' T' D' T0'; (try dsimp only); (try k_lift B'); (try k_fold)))

section
theorem kw25 : True := by
  w_top off
  k_with_none
  k_with "k_room" => first | ((try simp only [depth_under_make, depth_under_kw, depth_in1, depth_deeper, depth_caller]); omega) | decide
  k_with "code_def" => (refine' code_def ?k1w2 ?k2w2 ?k3w2 ?k4w2 ?k5w2 ?kAw2 ?kFw2 ?kKw2 ?k6w2 ?k7w2 ?k8w2 ?k9w2 ?kBw2 ?_ ?c2w2 ?c3w2 ?c4w2 ?c5w2; (case k1w2 => k_asm); (case k2w2 => k_asm); (case k3w2 => k_asm); (case k4w2 => k_asm); (case k5w2 => k_asm); (case kAw2 => assumption); (case kFw2 => assumption); (case kKw2 => assumption);  (case k6w2 => k_is); (case k7w2 => k_is); (case k8w2 => k_room); (case k9w2 => first | exact BindsTo.of_eq rfl | exact binds_K (by k_in) rfl (by k_is) rfl rfl rfl | fail "k_enter: no rule for these arguments"); (case c5w2 => decide); (case kBw2 => exact locs rfl); (case c2w2 => exact rfl); (case c3w2 => exact rfl); (case c4w2 => exact rfl))
  k_with "code_defC" => (refine' code_defC ?k1w3 ?k2w3 ?k3w3 ?k4w3 ?k5w3 ?kAw3 ?kFw3 ?kKw3 ?k6w3 ?k7w3 ?k8w3 ?k9w3 ?kBw3 ?kDw3 ?_ ?c2w3 ?c3w3 ?c4w3; (case k1w3 => k_asm); (case k2w3 => k_asm); (case k3w3 => k_asm); (case k4w3 => k_asm); (case k5w3 => k_asm); (case kAw3 => assumption); (case kFw3 => assumption); (case kKw3 => assumption); (case k6w3 => k_is); (case k7w3 => k_is); (case k8w3 => k_room); (case k9w3 => first | exact BindsTo.of_eq rfl | exact binds_K (by k_in) rfl (by k_is) rfl rfl rfl | fail "k_enter: no rule for these arguments"); (case kBw3 => exact rfl); (case kDw3 => decide +kernel); (case c2w3 => exact rfl); (case c3w3 => exact rfl); (case c4w3 => exact rfl))
  k_with "k_mem" => first | assumption | exact List.Mem.head _ | (refine' List.Mem.tail _ ?_; k_mem)
  k_with "k_all" => exact all_ne_of_lt (by assumption) (by first | exact Nat.le_refl _ | exact Nat.le_succ _ | omega)
  k_with "call builtin:str.lower" => (refine PyProof.Rows.SCL.lower (by omega) ?_; intro _)
  k_with "eval ListComp" => refine hold_intro ?_
  k_with "eval Slice none none none" => (refine slice_K (by assumption) (by assumption) ?_; intro _ _ _ _; (try k_sweep))
  k_with "setItem ref ref ref" => refine hold_intro ?_
  k_with "exec Assign cons ListComp" => ((with_reducible show wpAny _ _ (exec (Stmt.Assign [Expr.Subscript _ _ _] _ _) _) _ _ _); refine wpAny_Assign_Subscript ?_)
  k_with "call builtin:len" => (refine' len_L ?Nw11 ?hlw11 ?hsw11 ?_; (case Nw11 => k_asm); (case hlw11 => k_mem); (case hsw11 => omega); intro _ _)
  k_with "subscriptTail Name Slice ref ref" => ((with_reducible show wpAny _ _ (subscriptTail _ _ (Value.ref _) (Value.ref _)) _ _ _); refine' copy_L ?Fw12 ?Nw12 ?hlw12 ?hsw12 ?hzw12 ?_ ?hew12; (case Fw12 => k_asm); (case Nw12 => k_asm); (case hlw12 => k_mem); (case hsw12 => exact List.Mem.head _); (case hzw12 => rw [sizeLine_eq]; omega); (case hew12 => with_unfolding_all rfl); intro _ _ _ _ _; (try k_sweep))
  k_with "kp_more" => (refine' kp_more ?k1w13 ?k2w13 ?k3w13 ?k4w13 ?k5w13 ?kAw13 ?kFw13 ?kKw13 ?k6w13 ?k7w13 ?k8w13 ?kXw13 ?kMw13 ?kNw13 ?kDw13 ?kRw13 ?kPw13 ?kTw13 ?kBw13 ?_ ?c2w13 ?c3w13 ?c4w13 ?c5w13; (case kAw13 => assumption); (case kFw13 => assumption); (case kKw13 => assumption); (case k1w13 => k_asm); (case k2w13 => k_asm); (case k3w13 => k_asm); (case k4w13 => k_asm); (case k5w13 => k_asm); (case k6w13 => k_is); (case k7w13 => k_is); (case k8w13 => k_room); (case kXw13 => kp_lit); (case kMw13 => exact rfl); (case kNw13 => exact rfl); (case kDw13 => kp_flats); (case kRw13 => exact rfl); (case kPw13 => exact rfl); (case kTw13 => exact fun _ => rfl); (case kBw13 => exact fun _ => locs rfl); (case c5w13 => decide); (case c2w13 => exact rfl); (case c3w13 => exact rfl); (case c4w13 => exact rfl))
  k_with "exec For Tuple Name" => refine hold_intro ?_
  k_with "exec For Tuple Call" => refine hold_intro ?_
  k_with "exec For Tuple Call cons nil" => refine hold_intro ?_
  k_with "exec For Tuple Name cons nil" => refine hold_intro ?_
  k_with "call builtin:list.append" => (refine' append_L ?Fw18 ?Nw18 ?hlw18 ?_ ?hzw18; (case Fw18 => k_asm); (case Nw18 => k_asm); (case hlw18 => k_mem); (case hzw18 => (rw [sizeLine_eq]; omega)); intro _ _ _)
  k_with "mk_sit" => (refine' Sit.mk ?KXw19 ?Tw19 ?Bw19 ?Fw19 ?Nw19 ?hAw19 ?hfw19 ?hkew19 ?hroomw19 ?hhw19; (case KXw19 => k_asm); (case Tw19 => k_asm); (case Bw19 => k_asm); (case Fw19 => k_asm); (case Nw19 => k_asm); (case hAw19 => first | with_reducible assumption | exact Around.frames_deeper (Below.stack (by with_reducible assumption)) | rfl); (case hfw19 => first | with_reducible assumption | rfl); (case hkew19 => first | with_reducible assumption | rfl); (case hroomw19 => k_room); (case hhw19 => first | with_reducible assumption | exact handled_deeper (by with_reducible assumption) | assumption | rfl))
  k_with "call ref" => ((with_reducible show wpAny _ _ (call (Value.ref 83) [_, Value.str _ _] (List.zip _ [Value.bool true])) _ _ _); k_dflt (refine' conv_name ?Sw20 ?kaw20 ?kbw20 ?_; (case Sw20 => walk_at "mk_sit"); (case kaw20 => k_asm); (case kbw20 => k_asm); k_whole); intro _ _ _ _)
  k_with "call ref" => ((with_reducible show wpAny _ _ (call (Value.ref 83) [_, Value.str _ _] (List.zip _ [Value.bool false])) _ _ _); k_dflt (refine' conv_val ?Sw21 ?kaw21 ?kbw21 ?_; (case Sw21 => walk_at "mk_sit"); (case kaw21 => k_asm); (case kbw21 => k_asm); k_whole); intro _ _ _ _)
  k_with "box" => first | with_reducible assumption | exact Box.tail (by with_reducible assumption) | exact Box.tail (Box.tail (by with_reducible assumption)) | exact Box.tail (Box.tail (Box.tail (by with_reducible assumption))) | exact Box.tail (Box.tail (Box.tail (Box.tail (by with_reducible assumption))))
  k_with "k_mem" => first | with_reducible assumption | exact Box.hx (by with_reducible assumption) | exact Box.hd (by with_reducible assumption) | exact Box.hl (by with_reducible assumption) | exact List.Mem.head _ | (refine' List.Mem.tail _ ?_; k_mem) | (refine' Kept.mem (by with_reducible assumption) ?_ ?_; (k_mem); (first | with_reducible assumption | exact Ne.symm (by with_reducible assumption)))
  k_with "call ref" => ((with_reducible show wpAny _ _ (call (Value.ref 102) [_, Value.str _ _] _) _ _ _); k_dflt (refine' box_del ?Sw24 ?Bw24 ?kaw24 ?kbw24 ?_; (case Sw24 => walk_at "mk_sit"); (case Bw24 => walk_at "box"); (case kaw24 => walk_at "side"); (case kbw24 => walk_at "side"); k_whole); intro _ _ _ _ _ _ _ _ _)
  k_with "call ref" => ((with_reducible show wpAny _ _ (call (Value.ref 123) [_, Value.str _ _] _) _ _ _); k_dflt (refine' box_get ?Sw25 ?Bw25 ?kaw25 ?kbw25 ?_; (case Sw25 => walk_at "mk_sit"); (case Bw25 => walk_at "box"); (case kaw25 => walk_at "side"); (case kbw25 => walk_at "side"); k_whole); intro _ _ _ _ _ _ _ _ _)
  k_with "call ref" => ((with_reducible show wpAny _ _ (call (Value.ref 181) [_, Value.str _ _, Value.none] _) _ _ _); k_dflt (refine' box_none ?Sw26 ?Bw26 ?kaw26 ?kbw26 ?kcw26 ?_; (case Sw26 => walk_at "mk_sit"); (case Bw26 => walk_at "box"); (case kaw26 => walk_at "side"); (case kbw26 => walk_at "side"); (case kcw26 => walk_at "side"); k_whole); intro _ _ _ _ _ _ _ _ _ _)
  k_with "call ref" => ((with_reducible show wpAny _ _ (call (Value.ref 181) [_, Value.str _ _, Value.str _ _] _) _ _ _); k_dflt (refine' box_str ?Sw27 ?Bw27 ?kaw27 ?kbw27 ?kcw27 ?kdw27 ?kew27 ?_; (case Sw27 => walk_at "mk_sit"); (case Bw27 => walk_at "box"); (case kaw27 => walk_at "side"); (case kbw27 => walk_at "side"); (case kcw27 => walk_at "side"); (case kdw27 => walk_at "side"); (case kew27 => walk_at "side"); k_whole); intro _ _ _ _ _ _ _ _ _ _)
  k_with "call ref" => ((show wpAny _ _ (call (Value.ref 148) [Value.ref _]) _ _ _); k_dflt (refine' box_items ?Sw28 ?Bw28 ?_; (case Sw28 => walk_at "mk_sit"); (case Bw28 => walk_at "box"); k_whole); intro _ _ _ _ _ _)
  k_with "side" => first | with_reducible assumption | decide | omega
  k_with "call builtin:len" => (k_dflt (refine' box_len ?Sw30 ?Bw30 ?_; (case Sw30 => walk_at "mk_sit"); (case Bw30 => walk_at "box"); k_whole); intro _ _ _ _ _)
  k_with "call builtin:list.append" => (refine' append_K ?Fw31 ?Nw31 ?hlw31 ?hzw31 ?_; (case Fw31 => k_asm); (case Nw31 => k_asm); (case hlw31 => k_mem); (case hzw31 => (rw [sizeLine_eq]; first | omega | decide)); intro _ _ _ _ _ _)
  k_with "call builtin:list.append" => (refine' box_tell ?Fw32 ?Nw32 ?Bw32 ?htw32 ?hnew32 ?hsw32 ?_; (case Fw32 => k_asm); (case Nw32 => k_asm); (case Bw32 => walk_at "box"); (case htw32 => k_mem); (case hnew32 => assumption); (case hsw32 => walk_at "side"); intro _ _ _ _ _ _ _)
  k_with "call builtin:list.append" => (refine' box_append ?Fw33 ?Nw33 ?Bw33 ?htw33 ?hsw33 ?hzw33 ?_; (case Fw33 => k_asm); (case Nw33 => k_asm); (case Bw33 => walk_at "box"); (case htw33 => exact List.Mem.head _); (case hsw33 => walk_at "side"); (case hzw33 => walk_at "side"); intro _ _ _ _ _ _)
  k_with "exec For Name Call" => refine hold_intro ?_
  k_with "exec For Name Name" => refine hold_intro ?_
  k_with "exec For Name Name cons nil" => refine hold_intro ?_
  k_with "exec For Name Call cons nil" => refine hold_intro ?_
  k_with "kept2" => first | assumption | exact Kept2.start | (refine' Kept2.tail ?_; walk_at "kept2") | (refine' Kept2.left ?kzw38 ?kww38; (case kww38 => assumption); (case kzw38 => walk_at "kept2")) | (refine' Kept2.right ?kzw38 ?kww38; (case kww38 => assumption); (case kzw38 => walk_at "kept2")) | (refine' Kept2.both ?kzw38 ?kww38; (case kww38 => with_reducible assumption); (case kzw38 => walk_at "kept2"))
  k_with "agree" => first | assumption | exact Agree.start | (refine' Agree.set ?_ ?kww39; (case kww39 => decide); walk_at "agree")
  k_with "delItem ref str" => (k_dflt (refine' delItem_own ?Fw40 ?Xw40 ?Iw40 ?hQw40 ?hSw40 ?hFw40 ?_; (case Fw40 => k_asm); (case Xw40 => k_asm); (case Iw40 => k_inst); (case hSw40 => k_is); (case hFw40 => k_is); (case hQw40 => k_is); k_whole))
  k_with "call builtin:len" => (refine' len_L ?Nw41 ?hlw41 ?hsw41 ?_; (case hlw41 => k_mem); (case hsw41 => with_reducible assumption); (case Nw41 => k_asm); intro _ _)
  k_with "call ref" => ((with_reducible show wpAny _ _ (call (Value.ref 83) [_, Value.str _ _] (List.zip _ [Value.bool true])) _ _ _); k_dflt (refine' conv_name_bad ?Sw112 ?kaw112 ?kbw112 ?_; (case kbw112 => with_reducible assumption); (case Sw112 => walk_at "mk_sit"); (case kaw112 => with_reducible assumption); k_whole); intro _ _ _ _ _ _ _ _ _ _ _)
  k_with "call ref" => ((with_reducible show wpAny _ _ (call (Value.ref 83) [_, Value.str _ _] (List.zip _ [Value.bool false])) _ _ _); k_dflt (refine' conv_val_bad ?Sw113 ?kaw113 ?kbw113 ?_; (case kbw113 => with_reducible assumption); (case Sw113 => walk_at "mk_sit"); (case kaw113 => with_reducible assumption); k_whole); intro _ _ _ _ _ _ _ _ _ _ _)
  k_with "call ref" => ((with_reducible show wpAny _ _ (call (Value.ref 83) [_, Value.int _ _] (List.zip _ [Value.bool _])) _ _ _); k_dflt (refine' conv_int_bad ?Sw114 ?k0w114 ?k1w114 ?kyw114 ?_; (case Sw114 => walk_at "mk_sit"); (case k0w114 => with_reducible assumption); (case k1w114 => with_reducible assumption); (case kyw114 => with_reducible assumption); k_whole); intro _ _ _ _ _ _ _ _ _ _ _)
  k_with "leaving ref" => (k_here; (refine' leave_onS ?k1w115 ?k2w115 ?k3w115 ?k4w115 ?_; (case k3w115 => assumption); (case k2w115 => assumption); (case k1w115 => assumption); (case k4w115 => assumption); k_whole; intro _ S' R' U'; (try dsimp only at S' R' U' ⊢); (revert S' R' U'; intro _ _ _)))
  k_with "code_try" => (refine' code_try ?k1w116 ?k2w116 ?k3w116 ?k4w116 ?k5w116 ?kAw116 ?kFw116 ?kKw116 ?k6w116 ?k7w116 ?k8w116 ?k9w116 ?kBw116 ?_ ?c2w116 ?c3w116 ?c4w116 ?c5w116; (case k1w116 => k_asm); (case k2w116 => k_asm); (case k3w116 => k_asm); (case k4w116 => k_asm); (case k5w116 => k_asm); (case kAw116 => assumption); (case kFw116 => assumption); (case kKw116 => assumption); (case k6w116 => k_is); (case k7w116 => k_is); (case k8w116 => k_room); (case k9w116 => first | exact BindsTo.of_eq rfl | exact binds_K (by k_in) rfl (by k_is) rfl rfl rfl | fail "k_enter: no rule for these arguments"); (case kBw116 => exact locs rfl); (case c5w116 => decide); (case c2w116 => exact rfl); (case c3w116 => exact rfl); (case c4w116 => exact rfl))
  k_with "call ref" => ((with_reducible show wpAny _ _ (call (Value.ref 181) [_, Value.str _ _, Value.str _ _] (List.zip _ [Value.str _ _])) _ _ _); k_dflt (refine' add_par ?Sw117 ?Bw117 ?kaw117 ?kbw117 ?kcw117 ?kdw117 ?kew117 ?_; (case Sw117 => walk_at "mk_sit"); (case Bw117 => walk_at "box"); (case kaw117 => walk_at "side"); (case kbw117 => walk_at "side"); (case kcw117 => walk_at "side"); (case kdw117 => walk_at "side"); (case kew117 => walk_at "side"); k_whole); intro _ _ _ _ _ _ _ _ _ _ _)
  k_with "call ref" => ((with_reducible show wpAny _ _ (call (Value.ref 181) [_, Value.str _ _, Value.str _ _] (List.zip _ [Value.none])) _ _ _); k_dflt (refine' add_parnone ?Sw118 ?Bw118 ?kaw118 ?kbw118 ?kcw118 ?kdw118 ?kew118 ?_; (case Sw118 => walk_at "mk_sit"); (case Bw118 => walk_at "box"); (case kaw118 => walk_at "side"); (case kbw118 => walk_at "side"); (case kcw118 => walk_at "side"); (case kdw118 => walk_at "side"); (case kew118 => walk_at "side"); k_whole); intro _ _ _ _ _ _ _ _ _ _ _)
  k_with "call ref" => ((with_reducible show wpAny _ _ (call (Value.ref 181) [_, Value.str _ _, Value.str _ _] (List.zip _ [Value.str _ _])) _ _ _); k_dflt (refine' add_parbad ?Sw119 ?Bw119 ?kaw119 ?kbw119 ?kcw119 ?kdw119 ?kew119 ?kfw119 ?_; (case kfw119 => with_reducible assumption); (case Sw119 => walk_at "mk_sit"); (case Bw119 => walk_at "box"); (case kaw119 => walk_at "side"); (case kbw119 => walk_at "side"); (case kcw119 => walk_at "side"); (case kdw119 => walk_at "side"); (case kew119 => walk_at "side"); k_whole); intro _ _ _ _ _ _ _ _ _ _ _)
  k_with "call ref" => ((with_reducible show wpAny _ _ (call (Value.ref 181) [_, Value.int _ _, Value.str _ _] _) _ _ _); k_dflt (refine' add_intname ?Sw120 ?Bw120 ?kaw120 ?kbw120 ?kcw120 ?kdw120 ?kew120 ?_; (case Sw120 => walk_at "mk_sit"); (case Bw120 => walk_at "box"); (case kaw120 => walk_at "side"); (case kbw120 => walk_at "side"); (case kcw120 => walk_at "side"); (case kdw120 => walk_at "side"); (case kew120 => walk_at "side"); k_whole); intro _ _ _ _ _ _ _ _ _ _ _)
  k_with "call ref" => ((with_reducible show wpAny _ _ (call (Value.ref 97) [_, Value.str _ _, Value.str _ _] _) _ _ _); k_dflt (refine' set_box ?Sw121 ?Bw121 ?kaw121 ?kbw121 ?kcw121 ?kdw121 ?kew121 ?kfw121 ?_; (case Sw121 => walk_at "mk_sit"); (case Bw121 => walk_at "box"); (case kaw121 => walk_at "side"); (case kbw121 => walk_at "side"); (case kcw121 => walk_at "side"); (case kdw121 => walk_at "side"); (case kew121 => walk_at "side"); (case kfw121 => walk_at "side"); k_whole); intro _ _ _ _ _ _ _ _ _ _)
  k_with "call ref" => ((with_reducible show wpAny _ _ (call (Value.ref 97) [_, Value.str _ _, Value.str _ _] _) _ _ _); k_dflt (refine' set_bad ?Sw122 ?Bw122 ?kaw122 ?kbw122 ?kcw122 ?kdw122 ?kew122 ?kfw122 ?_; (case kew122 => with_reducible assumption); (case Sw122 => walk_at "mk_sit"); (case Bw122 => walk_at "box"); (case kaw122 => walk_at "side"); (case kbw122 => walk_at "side"); (case kcw122 => walk_at "side"); (case kdw122 => walk_at "side"); (case kfw122 => walk_at "side"); k_whole); intro _ _ _ _ _ _ _ _ _ _ _ _ _ _)
  k_with "call ref" => ((with_reducible show wpAny _ _ (call (Value.ref 97) [_, Value.str _ _, Value.int _ _] _) _ _ _); k_dflt (refine' set_int ?Sw123 ?Bw123 ?kaw123 ?kbw123 ?kcw123 ?kdw123 ?kew123 ?kfw123 ?kgw123 ?_; (case Sw123 => walk_at "mk_sit"); (case Bw123 => walk_at "box"); (case kaw123 => walk_at "side"); (case kbw123 => walk_at "side"); (case kcw123 => walk_at "side"); (case kdw123 => walk_at "side"); (case kew123 => walk_at "side"); (case kfw123 => walk_at "side"); (case kgw123 => walk_at "side"); k_whole); intro _ _ _ _ _ _ _ _ _ _ _ _ _ _)
  k_with "getv" => first | with_reducible assumption | exact getv_none_of (by with_reducible assumption) | exact getv_snoc (by with_reducible assumption) (by with_reducible assumption)
  k_with "call ref" => ((with_reducible show wpAny _ _ (call (Value.ref 174) [_, Value.str _ _, Value.str _ _] _) _ _ _); k_dflt (refine' setdef_some ?Sw125 ?Bw125 ?kaw125 ?kbw125 ?kvw125 ?_; (case Bw125 => walk_at "box"); (case kvw125 => walk_at "getv"); (case Sw125 => walk_at "mk_sit"); (case kaw125 => walk_at "side"); (case kbw125 => walk_at "side"); k_whole); intro _ _ _ _)
  k_with "call ref" => ((with_reducible show wpAny _ _ (call (Value.ref 174) [_, Value.str _ _, Value.str _ _] _) _ _ _); k_dflt (refine' setdef_none ?Sw126 ?Bw126 ?kaw126 ?kbw126 ?kcw126 ?kdw126 ?kew126 ?kfw126 ?kvw126 ?_; (case Bw126 => walk_at "box"); (case kvw126 => walk_at "getv"); (case Sw126 => walk_at "mk_sit"); (case kaw126 => walk_at "side"); (case kbw126 => walk_at "side"); (case kcw126 => walk_at "side"); (case kdw126 => walk_at "side"); (case kew126 => walk_at "side"); (case kfw126 => walk_at "side"); k_whole); intro _ _ _ _ _ _ _ _ _ _)
  k_with "call ref" => ((with_reducible show wpAny _ _ (call (Value.ref 174) [_, Value.str _ _, Value.str _ _] _) _ _ _); k_dflt (refine' setdef_bad ?Sw127 ?kaw127 ?kbw127 ?Bw127 ?_; (case kbw127 => with_reducible assumption); (case Sw127 => walk_at "mk_sit"); (case Bw127 => walk_at "box"); (case kaw127 => walk_at "side"); k_whole); intro _ _ _ _ _ _ _ _ _ _ _)
  k_with "call type:str" => ((with_reducible show wpAny _ _ (call (Value.type "str") [Value.ref _]) _ _ _); (first | refine' str_got_one PySem.F.excStr_AssertionError ?Nw128 ?Gw128 ?Uw128 ?_ | refine' str_got_one PySem.F.excStr_ValueError ?Nw128 ?Gw128 ?Uw128 ?_); (case Gw128 => with_reducible assumption); (case Nw128 => with_reducible assumption); (case Uw128 => exact units_deed (by with_reducible assumption)))
  k_with "side" => exact lt_snoc2 (by with_reducible assumption)
  k_with "side" => exact lt_snoc (by with_reducible assumption)
  k_with "side" => with_reducible assumption
  k_with "kept" => first | with_reducible assumption | exact Kept.refl | (refine' Kept.trans ?kzw132 ?kww132; (case kww132 => with_reducible assumption); (case kzw132 => walk_at "kept")) | (refine' Kept.trans ?kzw132 (Kept.off ?kww132); (case kww132 => with_reducible assumption); (case kzw132 => walk_at "kept")) | (refine' Kept.with ?kzw132 ?kww132; (case kww132 => with_reducible assumption); (case kzw132 => walk_at "kept"))
  k_with "exec If" => refine wpAny_If ?_
  trivial
section
variable {w : World} {A A₀ : Around} {E : Value → Shared → Prop} {s : Shared} {h₀ : Heap} {env : Env} {L x l d : Addr} {tl : Tok} {m mg mb : Str → Option Value} {news : List (Addr × Obj)}
   {p : Program} {loose : List Str} {mean : ExcName → Option Value} {Q : Value → Shared → Prop} {nm : Str} {tk td tt tf ts : Tok} {its : Array Value} {n : Nat} {ps : List (Str × Value)} {deed : Int} {text first second : Str}
theorem deed0 (S : Sit w A A₀ h₀ h₀ env [] L m p loose mean mg mb news s.heap 60) (B : Box w news x l d tl its n ps) (hs : ps.length < 900) (hu : A.units + 64 < cLine) (X : Txts deed text first second) (hno : ∀ q ∈ ps, Txt.lower q.1 ≠ Txt.lower first)
   (h : ∀ h' t' news' its' n' ps' tw, Fr h₀ L h' m → News h₀ L h' news' → Kept l news news' → Box w news' x l d tl its' n' ps' → Did ps ps' 1 (Txt.lower first) → Q (.str (Str.ofString "") tw) {s with heap := h', toks := t'}) :
   wpAny (model pg w) A (call (.ref 195) [.ref x, .ref l, .int 0 tk, .int deed td, .str text tt, .str first tf, .str second ts]) Q E s := by
  obtain ⟨KX, T, B', F, N, hA, hf, hke, hroom, hh⟩ := S
  obtain ⟨f1, f2, f3, s1, s2, s3, he, htm, htc, d0, d1, b7, b9, b10, n7, n9, n10, hy⟩ := X
  have hs1 : ps.length < 1000 := by omega
  have hs3 : ps.length < 990 := by omega
  have hs4 : ps.length < 980 := by omega
  have k1 : (Str.ofString "via").length ≤ 1000 := by decide +kernel
  have k2 : ctlIn isCtlN (Str.ofString "via").cps = false := by decide +kernel
  refine wpAny_call ?_
  walk_at "enter_try"
  k_steps
  refine leaveT_box (by assumption) (by assumption) (by assumption) (by assumption) fun F1 N1 => ?_
  exact h _ _ _ _ _ _ _ F1 N1 (by walk_at "kept") (by assumption) (by exact Did.one (.inr rfl))
theorem deed8 (S : Sit w A A₀ h₀ h₀ env [] L m p loose mean mg mb news s.heap 60) (B : Box w news x l d tl its n ps) (hs : ps.length < 900) (hu : A.units + 64 < cLine) (X : Txts deed text first second) (hno : ∀ q ∈ ps, Txt.lower q.1 ≠ Txt.lower first)
   (h : ∀ h' t' news' its' n' ps' tw, Fr h₀ L h' m → News h₀ L h' news' → Kept l news news' → Box w news' x l d tl its' n' ps' → Did ps ps' 0 (Txt.lower first) → Q (.str (errA 7) tw) {s with heap := h', toks := t'}) :
   wpAny (model pg w) A (call (.ref 195) [.ref x, .ref l, .int 8 tk, .int deed td, .str text tt, .str first tf, .str second ts]) Q E s := by
  obtain ⟨KX, T, B', F, N, hA, hf, hke, hroom, hh⟩ := S
  obtain ⟨f1, f2, f3, s1, s2, s3, he, htm, htc, d0, d1, b7, b9, b10, n7, n9, n10, hy⟩ := X
  have hs1 : ps.length < 1000 := by omega
  have hs3 : ps.length < 990 := by omega
  have hs4 : ps.length < 980 := by omega
  have z0 : (0 : Int) ≤ 7 := by decide
  have z1 : (7 : Int) < 12 := by decide
  have z2 : (Str.ofString (toString (7 : Int))).length ≤ 100000 := by decide +kernel
  have e1 := filter_no hno
  have hs2 : (ps.filter (fun q => !(Txt.lower q.1 == Txt.lower first))).length < 990 := by rw [e1]; omega
  refine wpAny_call ?_
  walk_at "enter_try"
  k_steps
  refine leaveT_box (by assumption) (by assumption) (by assumption) (by assumption) fun F1 N1 => ?_
  rw [err_eq]
  exact h _ _ _ _ _ _ _ F1 N1 (by walk_at "kept") (by assumption) (by rw [he, filter_no hno, filter_one hno rfl]; exact Did.same)
end
end
section
local macro_rules | `(tactic| walk_at "pad") => `(tactic| fail)
theorem kw27 : True := by
  w_top off
  trivial
theorem paired_unsnoc {α β : Type} {F : α → β → Prop} : ∀ {b : List β} {xs : List α} {q : β}, Paired F xs (b ++ [q]) → ∃ a y, xs = a ++ [y] ∧ Paired F a b
  | [], xs, q, h => by
    cases h with
    | cons h1 h2 => cases h2; exact ⟨[], _, rfl, .nil⟩
  | p :: b, xs, q, h => by
    cases h with
    | cons h1 h2 =>
      obtain ⟨a, y, rfl, P⟩ := paired_unsnoc h2
      exact ⟨_ :: a, y, rfl, .cons h1 P⟩
theorem box_pop {w : World} {A : Around} {E : Value → Shared → Prop} {s : Shared} {h₀ : Heap} {L x l d : Addr} {tl : Tok} {m : Str → Option Value} {news : List (Addr × Obj)} {Q : Value → Shared → Prop} {its : Array Value} {n : Nat} {ps : List (Str × Value)} {q : Str × Value} (F : Fr h₀ L s.heap m) (N : News h₀ L s.heap news) (B : Box w news x l d tl its n (ps ++ [q]))
   (h : ∀ y h' news' its' n', Fr h₀ L h' m → News h₀ L h' news' → Kept l news news' → Box w news' x l d tl its' n' ps → Q y {s with heap := h'}) :
   wpAny (model pg w) A (call (.builtin "list.pop") [.ref l]) Q E s := by
  obtain ⟨a, y, e, P⟩ := paired_unsnoc B.P
  have hsm := B.small
  rw [List.length_append] at hsm
  have hy : its[its.size - 1]? = some y := by
    rw [← Array.getElem?_toList, ← Array.length_toList, e]
    simp
  have ep : its.pop.toList = a := by rw [Array.toList_pop, e, List.dropLast_concat]
  refine pop_L F N B.hl hy (by rw [sizeLine_eq]; have := B.small'; omega) fun h' n' F' N' => h y h' _ _ n' F' N' Kept.upd (B.upd_self N ?_ (by omega))
  rw [ep]
  exact PairsN.upd (its := a) P N B.hl (by show Value.type "list" ≠ Value.type "tuple"; decide)
theorem kw26 : True := by
  k_with "call builtin:list.pop" => ((show wpAny _ _ (call (Value.builtin "list.pop") [Value.ref _]) _ _ _); refine' box_pop ?Fw134 ?Nw134 ?Bw134 ?_; (case Bw134 => walk_at "box"); (case Fw134 => k_asm); (case Nw134 => k_asm); intro _ _ _ _ _ _ _ _ _)
  trivial
section
variable {w : World} {A A₀ : Around} {E : Value → Shared → Prop} {s : Shared} {h₀ : Heap} {env : Env} {L x l d : Addr} {tl : Tok} {m mg mb : Str → Option Value} {news : List (Addr × Obj)}
   {p : Program} {loose : List Str} {mean : ExcName → Option Value} {Q : Value → Shared → Prop} {nm : Str} {tk td tt tf ts : Tok} {its : Array Value} {n : Nat} {ps : List (Str × Value)} {deed : Int} {text first second : Str}
theorem deed1 (S : Sit w A A₀ h₀ h₀ env [] L m p loose mean mg mb news s.heap 60) (B : Box w news x l d tl its n ps) (hs : ps.length < 900) (hu : A.units + 64 < cLine) (X : Txts deed text first second) (hno : ∀ q ∈ ps, Txt.lower q.1 ≠ Txt.lower first)
   (h : ∀ h' t' news' its' n' ps' tw, Fr h₀ L h' m → News h₀ L h' news' → Kept l news news' → Box w news' x l d tl its' n' ps' → Did ps ps' 1 (Txt.lower first) → Q (.str (Str.ofString "") tw) {s with heap := h', toks := t'}) :
   wpAny (model pg w) A (call (.ref 195) [.ref x, .ref l, .int 1 tk, .int deed td, .str text tt, .str first tf, .str second ts]) Q E s := by
  obtain ⟨KX, T, B', F, N, hA, hf, hke, hroom, hh⟩ := S
  obtain ⟨f1, f2, f3, s1, s2, s3, he, htm, htc, d0, d1, b7, b9, b10, n7, n9, n10, hy⟩ := X
  have hs1 : ps.length < 1000 := by omega
  have hs3 : ps.length < 990 := by omega
  have hs4 : ps.length < 980 := by omega
  refine wpAny_call ?_
  walk_at "enter_try"
  k_steps
  refine leaveT_box (by assumption) (by assumption) (by assumption) (by assumption) fun F1 N1 => ?_
  exact h _ _ _ _ _ _ _ F1 N1 (by walk_at "kept") (by assumption) (by rw [filter_two hno he rfl]; exact Did.one (.inl rfl))
theorem deed2 (S : Sit w A A₀ h₀ h₀ env [] L m p loose mean mg mb news s.heap 60) (B : Box w news x l d tl its n ps) (hs : ps.length < 900) (hu : A.units + 64 < cLine) (X : Txts deed text first second) (hno : ∀ q ∈ ps, Txt.lower q.1 ≠ Txt.lower first)
   (h : ∀ h' t' news' its' n' ps' tw, Fr h₀ L h' m → News h₀ L h' news' → Kept l news news' → Box w news' x l d tl its' n' ps' → Did ps ps' 1 (Txt.lower first) → Q (.str (Str.ofString "") tw) {s with heap := h', toks := t'}) :
   wpAny (model pg w) A (call (.ref 195) [.ref x, .ref l, .int 2 tk, .int deed td, .str text tt, .str first tf, .str second ts]) Q E s := by
  obtain ⟨KX, T, B', F, N, hA, hf, hke, hroom, hh⟩ := S
  obtain ⟨f1, f2, f3, s1, s2, s3, he, htm, htc, d0, d1, b7, b9, b10, n7, n9, n10, hy⟩ := X
  have hs1 : ps.length < 1000 := by omega
  have hs3 : ps.length < 990 := by omega
  have hs4 : ps.length < 980 := by omega
  have hno2 : ∀ q ∈ ps, Txt.lower q.1 ≠ Txt.lower second := by rw [he]; exact hno
  have he2 := he.symm
  refine wpAny_call ?_
  walk_at "enter_try"
  k_steps
  refine leaveT_box (by assumption) (by assumption) (by assumption) (by assumption) fun F1 N1 => ?_
  exact h _ _ _ _ _ _ _ F1 N1 (by walk_at "kept") (by assumption) (by exact Did.one (.inl rfl))
theorem deed5 (S : Sit w A A₀ h₀ h₀ env [] L m p loose mean mg mb news s.heap 60) (B : Box w news x l d tl its n ps) (hs : ps.length < 900) (hu : A.units + 64 < cLine) (X : Txts deed text first second) (hno : ∀ q ∈ ps, Txt.lower q.1 ≠ Txt.lower first)
   (h : ∀ h' t' news' its' n' ps' tw, Fr h₀ L h' m → News h₀ L h' news' → Kept l news news' → Box w news' x l d tl its' n' ps' → Did ps ps' 1 (Txt.lower first) → Q (.str (Str.ofString "") tw) {s with heap := h', toks := t'}) :
   wpAny (model pg w) A (call (.ref 195) [.ref x, .ref l, .int 5 tk, .int deed td, .str text tt, .str first tf, .str second ts]) Q E s := by
  obtain ⟨KX, T, B', F, N, hA, hf, hke, hroom, hh⟩ := S
  obtain ⟨f1, f2, f3, s1, s2, s3, he, htm, htc, d0, d1, b7, b9, b10, n7, n9, n10, hy⟩ := X
  have hs1 : ps.length < 1000 := by omega
  have hs3 : ps.length < 990 := by omega
  have hs4 : ps.length < 980 := by omega
  have hno2 : ∀ q ∈ ps, Txt.lower q.1 ≠ Txt.lower second := by rw [he]; exact hno
  have he2 := he.symm
  refine wpAny_call ?_
  walk_at "enter_try"
  k_steps
  refine leaveT_box (by assumption) (by assumption) (by assumption) (by assumption) fun F1 N1 => ?_
  exact h _ _ _ _ _ _ _ F1 N1 (by walk_at "kept") (by assumption) (by exact Did.one (.inl rfl))
end
end
section
theorem kw28 : True := by
  w_top off
  k_with_none
  k_with "k_room" => first | ((try simp only [depth_under_make, depth_under_kw, depth_in1, depth_deeper, depth_caller]); omega) | decide
  k_with "code_def" => (refine' code_def ?k1w2 ?k2w2 ?k3w2 ?k4w2 ?k5w2 ?kAw2 ?kFw2 ?kKw2 ?k6w2 ?k7w2 ?k8w2 ?k9w2 ?kBw2 ?_ ?c2w2 ?c3w2 ?c4w2 ?c5w2; (case k1w2 => k_asm); (case k2w2 => k_asm); (case k3w2 => k_asm); (case k4w2 => k_asm); (case k5w2 => k_asm); (case kAw2 => assumption); (case kFw2 => assumption); (case kKw2 => assumption);  (case k6w2 => k_is); (case k7w2 => k_is); (case k8w2 => k_room); (case k9w2 => first | exact BindsTo.of_eq rfl | exact binds_K (by k_in) rfl (by k_is) rfl rfl rfl | fail "k_enter: no rule for these arguments"); (case c5w2 => decide); (case kBw2 => exact locs rfl); (case c2w2 => exact rfl); (case c3w2 => exact rfl); (case c4w2 => exact rfl))
  k_with "code_defC" => (refine' code_defC ?k1w3 ?k2w3 ?k3w3 ?k4w3 ?k5w3 ?kAw3 ?kFw3 ?kKw3 ?k6w3 ?k7w3 ?k8w3 ?k9w3 ?kBw3 ?kDw3 ?_ ?c2w3 ?c3w3 ?c4w3; (case k1w3 => k_asm); (case k2w3 => k_asm); (case k3w3 => k_asm); (case k4w3 => k_asm); (case k5w3 => k_asm); (case kAw3 => assumption); (case kFw3 => assumption); (case kKw3 => assumption); (case k6w3 => k_is); (case k7w3 => k_is); (case k8w3 => k_room); (case k9w3 => first | exact BindsTo.of_eq rfl | exact binds_K (by k_in) rfl (by k_is) rfl rfl rfl | fail "k_enter: no rule for these arguments"); (case kBw3 => exact rfl); (case kDw3 => decide +kernel); (case c2w3 => exact rfl); (case c3w3 => exact rfl); (case c4w3 => exact rfl))
  k_with "k_mem" => first | assumption | exact List.Mem.head _ | (refine' List.Mem.tail _ ?_; k_mem)
  k_with "k_all" => exact all_ne_of_lt (by assumption) (by first | exact Nat.le_refl _ | exact Nat.le_succ _ | omega)
  k_with "call builtin:str.lower" => (refine PyProof.Rows.SCL.lower (by omega) ?_; intro _)
  k_with "eval ListComp" => refine hold_intro ?_
  k_with "eval Slice none none none" => (refine slice_K (by assumption) (by assumption) ?_; intro _ _ _ _; (try k_sweep))
  k_with "setItem ref ref ref" => refine hold_intro ?_
  k_with "exec Assign cons ListComp" => ((with_reducible show wpAny _ _ (exec (Stmt.Assign [Expr.Subscript _ _ _] _ _) _) _ _ _); refine wpAny_Assign_Subscript ?_)
  k_with "call builtin:len" => (refine' len_L ?Nw11 ?hlw11 ?hsw11 ?_; (case Nw11 => k_asm); (case hlw11 => k_mem); (case hsw11 => omega); intro _ _)
  k_with "subscriptTail Name Slice ref ref" => ((with_reducible show wpAny _ _ (subscriptTail _ _ (Value.ref _) (Value.ref _)) _ _ _); refine' copy_L ?Fw12 ?Nw12 ?hlw12 ?hsw12 ?hzw12 ?_ ?hew12; (case Fw12 => k_asm); (case Nw12 => k_asm); (case hlw12 => k_mem); (case hsw12 => exact List.Mem.head _); (case hzw12 => rw [sizeLine_eq]; omega); (case hew12 => with_unfolding_all rfl); intro _ _ _ _ _; (try k_sweep))
  k_with "kp_more" => (refine' kp_more ?k1w13 ?k2w13 ?k3w13 ?k4w13 ?k5w13 ?kAw13 ?kFw13 ?kKw13 ?k6w13 ?k7w13 ?k8w13 ?kXw13 ?kMw13 ?kNw13 ?kDw13 ?kRw13 ?kPw13 ?kTw13 ?kBw13 ?_ ?c2w13 ?c3w13 ?c4w13 ?c5w13; (case kAw13 => assumption); (case kFw13 => assumption); (case kKw13 => assumption); (case k1w13 => k_asm); (case k2w13 => k_asm); (case k3w13 => k_asm); (case k4w13 => k_asm); (case k5w13 => k_asm); (case k6w13 => k_is); (case k7w13 => k_is); (case k8w13 => k_room); (case kXw13 => kp_lit); (case kMw13 => exact rfl); (case kNw13 => exact rfl); (case kDw13 => kp_flats); (case kRw13 => exact rfl); (case kPw13 => exact rfl); (case kTw13 => exact fun _ => rfl); (case kBw13 => exact fun _ => locs rfl); (case c5w13 => decide); (case c2w13 => exact rfl); (case c3w13 => exact rfl); (case c4w13 => exact rfl))
  k_with "exec For Tuple Name" => refine hold_intro ?_
  k_with "exec For Tuple Call" => refine hold_intro ?_
  k_with "exec For Tuple Call cons nil" => refine hold_intro ?_
  k_with "exec For Tuple Name cons nil" => refine hold_intro ?_
  k_with "call builtin:list.append" => (refine' append_L ?Fw18 ?Nw18 ?hlw18 ?_ ?hzw18; (case Fw18 => k_asm); (case Nw18 => k_asm); (case hlw18 => k_mem); (case hzw18 => (rw [sizeLine_eq]; omega)); intro _ _ _)
  k_with "mk_sit" => (refine' Sit.mk ?KXw19 ?Tw19 ?Bw19 ?Fw19 ?Nw19 ?hAw19 ?hfw19 ?hkew19 ?hroomw19 ?hhw19; (case KXw19 => k_asm); (case Tw19 => k_asm); (case Bw19 => k_asm); (case Fw19 => k_asm); (case Nw19 => k_asm); (case hAw19 => first | with_reducible assumption | exact Around.frames_deeper (Below.stack (by with_reducible assumption)) | rfl); (case hfw19 => first | with_reducible assumption | rfl); (case hkew19 => first | with_reducible assumption | rfl); (case hroomw19 => k_room); (case hhw19 => first | with_reducible assumption | exact handled_deeper (by with_reducible assumption) | assumption | rfl))
  k_with "call ref" => ((with_reducible show wpAny _ _ (call (Value.ref 83) [_, Value.str _ _] (List.zip _ [Value.bool true])) _ _ _); k_dflt (refine' conv_name ?Sw20 ?kaw20 ?kbw20 ?_; (case Sw20 => walk_at "mk_sit"); (case kaw20 => k_asm); (case kbw20 => k_asm); k_whole); intro _ _ _ _)
  k_with "call ref" => ((with_reducible show wpAny _ _ (call (Value.ref 83) [_, Value.str _ _] (List.zip _ [Value.bool false])) _ _ _); k_dflt (refine' conv_val ?Sw21 ?kaw21 ?kbw21 ?_; (case Sw21 => walk_at "mk_sit"); (case kaw21 => k_asm); (case kbw21 => k_asm); k_whole); intro _ _ _ _)
  k_with "box" => first | with_reducible assumption | exact Box.tail (by with_reducible assumption) | exact Box.tail (Box.tail (by with_reducible assumption)) | exact Box.tail (Box.tail (Box.tail (by with_reducible assumption))) | exact Box.tail (Box.tail (Box.tail (Box.tail (by with_reducible assumption))))
  k_with "k_mem" => first | with_reducible assumption | exact Box.hx (by with_reducible assumption) | exact Box.hd (by with_reducible assumption) | exact Box.hl (by with_reducible assumption) | exact List.Mem.head _ | (refine' List.Mem.tail _ ?_; k_mem) | (refine' Kept.mem (by with_reducible assumption) ?_ ?_; (k_mem); (first | with_reducible assumption | exact Ne.symm (by with_reducible assumption)))
  k_with "call ref" => ((with_reducible show wpAny _ _ (call (Value.ref 102) [_, Value.str _ _] _) _ _ _); k_dflt (refine' box_del ?Sw24 ?Bw24 ?kaw24 ?kbw24 ?_; (case Sw24 => walk_at "mk_sit"); (case Bw24 => walk_at "box"); (case kaw24 => walk_at "side"); (case kbw24 => walk_at "side"); k_whole); intro _ _ _ _ _ _ _ _ _)
  k_with "call ref" => ((with_reducible show wpAny _ _ (call (Value.ref 123) [_, Value.str _ _] _) _ _ _); k_dflt (refine' box_get ?Sw25 ?Bw25 ?kaw25 ?kbw25 ?_; (case Sw25 => walk_at "mk_sit"); (case Bw25 => walk_at "box"); (case kaw25 => walk_at "side"); (case kbw25 => walk_at "side"); k_whole); intro _ _ _ _ _ _ _ _ _)
  k_with "call ref" => ((with_reducible show wpAny _ _ (call (Value.ref 181) [_, Value.str _ _, Value.none] _) _ _ _); k_dflt (refine' box_none ?Sw26 ?Bw26 ?kaw26 ?kbw26 ?kcw26 ?_; (case Sw26 => walk_at "mk_sit"); (case Bw26 => walk_at "box"); (case kaw26 => walk_at "side"); (case kbw26 => walk_at "side"); (case kcw26 => walk_at "side"); k_whole); intro _ _ _ _ _ _ _ _ _ _)
  k_with "call ref" => ((with_reducible show wpAny _ _ (call (Value.ref 181) [_, Value.str _ _, Value.str _ _] _) _ _ _); k_dflt (refine' box_str ?Sw27 ?Bw27 ?kaw27 ?kbw27 ?kcw27 ?kdw27 ?kew27 ?_; (case Sw27 => walk_at "mk_sit"); (case Bw27 => walk_at "box"); (case kaw27 => walk_at "side"); (case kbw27 => walk_at "side"); (case kcw27 => walk_at "side"); (case kdw27 => walk_at "side"); (case kew27 => walk_at "side"); k_whole); intro _ _ _ _ _ _ _ _ _ _)
  k_with "call ref" => ((show wpAny _ _ (call (Value.ref 148) [Value.ref _]) _ _ _); k_dflt (refine' box_items ?Sw28 ?Bw28 ?_; (case Sw28 => walk_at "mk_sit"); (case Bw28 => walk_at "box"); k_whole); intro _ _ _ _ _ _)
  k_with "side" => first | with_reducible assumption | decide | omega
  k_with "call builtin:len" => (k_dflt (refine' box_len ?Sw30 ?Bw30 ?_; (case Sw30 => walk_at "mk_sit"); (case Bw30 => walk_at "box"); k_whole); intro _ _ _ _ _)
  k_with "call builtin:list.append" => (refine' append_K ?Fw31 ?Nw31 ?hlw31 ?hzw31 ?_; (case Fw31 => k_asm); (case Nw31 => k_asm); (case hlw31 => k_mem); (case hzw31 => (rw [sizeLine_eq]; first | omega | decide)); intro _ _ _ _ _ _)
  k_with "call builtin:list.append" => (refine' box_tell ?Fw32 ?Nw32 ?Bw32 ?htw32 ?hnew32 ?hsw32 ?_; (case Fw32 => k_asm); (case Nw32 => k_asm); (case Bw32 => walk_at "box"); (case htw32 => k_mem); (case hnew32 => assumption); (case hsw32 => walk_at "side"); intro _ _ _ _ _ _ _)
  k_with "call builtin:list.append" => (refine' box_append ?Fw33 ?Nw33 ?Bw33 ?htw33 ?hsw33 ?hzw33 ?_; (case Fw33 => k_asm); (case Nw33 => k_asm); (case Bw33 => walk_at "box"); (case htw33 => exact List.Mem.head _); (case hsw33 => walk_at "side"); (case hzw33 => walk_at "side"); intro _ _ _ _ _ _)
  k_with "exec For Name Call" => refine hold_intro ?_
  k_with "exec For Name Name" => refine hold_intro ?_
  k_with "exec For Name Name cons nil" => refine hold_intro ?_
  k_with "exec For Name Call cons nil" => refine hold_intro ?_
  k_with "kept2" => first | assumption | exact Kept2.start | (refine' Kept2.tail ?_; walk_at "kept2") | (refine' Kept2.left ?kzw38 ?kww38; (case kww38 => assumption); (case kzw38 => walk_at "kept2")) | (refine' Kept2.right ?kzw38 ?kww38; (case kww38 => assumption); (case kzw38 => walk_at "kept2")) | (refine' Kept2.both ?kzw38 ?kww38; (case kww38 => with_reducible assumption); (case kzw38 => walk_at "kept2"))
  k_with "agree" => first | assumption | exact Agree.start | (refine' Agree.set ?_ ?kww39; (case kww39 => decide); walk_at "agree")
  k_with "delItem ref str" => (k_dflt (refine' delItem_own ?Fw40 ?Xw40 ?Iw40 ?hQw40 ?hSw40 ?hFw40 ?_; (case Fw40 => k_asm); (case Xw40 => k_asm); (case Iw40 => k_inst); (case hSw40 => k_is); (case hFw40 => k_is); (case hQw40 => k_is); k_whole))
  k_with "call builtin:len" => (refine' len_L ?Nw41 ?hlw41 ?hsw41 ?_; (case hlw41 => k_mem); (case hsw41 => with_reducible assumption); (case Nw41 => k_asm); intro _ _)
  k_with "call ref" => ((with_reducible show wpAny _ _ (call (Value.ref 83) [_, Value.str _ _] (List.zip _ [Value.bool true])) _ _ _); k_dflt (refine' conv_name_bad ?Sw135 ?kaw135 ?kbw135 ?_; (case kbw135 => with_reducible assumption); (case Sw135 => walk_at "mk_sit"); (case kaw135 => with_reducible assumption); k_whole); intro _ _ _ _ _ _ _ _ _ _ _)
  k_with "call ref" => ((with_reducible show wpAny _ _ (call (Value.ref 83) [_, Value.str _ _] (List.zip _ [Value.bool false])) _ _ _); k_dflt (refine' conv_val_bad ?Sw136 ?kaw136 ?kbw136 ?_; (case kbw136 => with_reducible assumption); (case Sw136 => walk_at "mk_sit"); (case kaw136 => with_reducible assumption); k_whole); intro _ _ _ _ _ _ _ _ _ _ _)
  k_with "call ref" => ((with_reducible show wpAny _ _ (call (Value.ref 83) [_, Value.int _ _] (List.zip _ [Value.bool _])) _ _ _); k_dflt (refine' conv_int_bad ?Sw137 ?k0w137 ?k1w137 ?kyw137 ?_; (case Sw137 => walk_at "mk_sit"); (case k0w137 => with_reducible assumption); (case k1w137 => with_reducible assumption); (case kyw137 => with_reducible assumption); k_whole); intro _ _ _ _ _ _ _ _ _ _ _)
  k_with "leaving ref" => (k_here; (refine' leave_onS ?k1w138 ?k2w138 ?k3w138 ?k4w138 ?_; (case k3w138 => assumption); (case k2w138 => assumption); (case k1w138 => assumption); (case k4w138 => assumption); k_whole; intro _ S' R' U'; (try dsimp only at S' R' U' ⊢); (revert S' R' U'; intro _ _ _)))
  k_with "code_try" => (refine' code_try ?k1w139 ?k2w139 ?k3w139 ?k4w139 ?k5w139 ?kAw139 ?kFw139 ?kKw139 ?k6w139 ?k7w139 ?k8w139 ?k9w139 ?kBw139 ?_ ?c2w139 ?c3w139 ?c4w139 ?c5w139; (case k1w139 => k_asm); (case k2w139 => k_asm); (case k3w139 => k_asm); (case k4w139 => k_asm); (case k5w139 => k_asm); (case kAw139 => assumption); (case kFw139 => assumption); (case kKw139 => assumption); (case k6w139 => k_is); (case k7w139 => k_is); (case k8w139 => k_room); (case k9w139 => first | exact BindsTo.of_eq rfl | exact binds_K (by k_in) rfl (by k_is) rfl rfl rfl | fail "k_enter: no rule for these arguments"); (case kBw139 => exact locs rfl); (case c5w139 => decide); (case c2w139 => exact rfl); (case c3w139 => exact rfl); (case c4w139 => exact rfl))
  k_with "call ref" => ((with_reducible show wpAny _ _ (call (Value.ref 181) [_, Value.str _ _, Value.str _ _] (List.zip _ [Value.str _ _])) _ _ _); k_dflt (refine' add_par ?Sw140 ?Bw140 ?kaw140 ?kbw140 ?kcw140 ?kdw140 ?kew140 ?_; (case Sw140 => walk_at "mk_sit"); (case Bw140 => walk_at "box"); (case kaw140 => walk_at "side"); (case kbw140 => walk_at "side"); (case kcw140 => walk_at "side"); (case kdw140 => walk_at "side"); (case kew140 => walk_at "side"); k_whole); intro _ _ _ _ _ _ _ _ _ _ _)
  k_with "call ref" => ((with_reducible show wpAny _ _ (call (Value.ref 181) [_, Value.str _ _, Value.str _ _] (List.zip _ [Value.none])) _ _ _); k_dflt (refine' add_parnone ?Sw141 ?Bw141 ?kaw141 ?kbw141 ?kcw141 ?kdw141 ?kew141 ?_; (case Sw141 => walk_at "mk_sit"); (case Bw141 => walk_at "box"); (case kaw141 => walk_at "side"); (case kbw141 => walk_at "side"); (case kcw141 => walk_at "side"); (case kdw141 => walk_at "side"); (case kew141 => walk_at "side"); k_whole); intro _ _ _ _ _ _ _ _ _ _ _)
  k_with "call ref" => ((with_reducible show wpAny _ _ (call (Value.ref 181) [_, Value.str _ _, Value.str _ _] (List.zip _ [Value.str _ _])) _ _ _); k_dflt (refine' add_parbad ?Sw142 ?Bw142 ?kaw142 ?kbw142 ?kcw142 ?kdw142 ?kew142 ?kfw142 ?_; (case kfw142 => with_reducible assumption); (case Sw142 => walk_at "mk_sit"); (case Bw142 => walk_at "box"); (case kaw142 => walk_at "side"); (case kbw142 => walk_at "side"); (case kcw142 => walk_at "side"); (case kdw142 => walk_at "side"); (case kew142 => walk_at "side"); k_whole); intro _ _ _ _ _ _ _ _ _ _ _)
  k_with "call ref" => ((with_reducible show wpAny _ _ (call (Value.ref 181) [_, Value.int _ _, Value.str _ _] _) _ _ _); k_dflt (refine' add_intname ?Sw143 ?Bw143 ?kaw143 ?kbw143 ?kcw143 ?kdw143 ?kew143 ?_; (case Sw143 => walk_at "mk_sit"); (case Bw143 => walk_at "box"); (case kaw143 => walk_at "side"); (case kbw143 => walk_at "side"); (case kcw143 => walk_at "side"); (case kdw143 => walk_at "side"); (case kew143 => walk_at "side"); k_whole); intro _ _ _ _ _ _ _ _ _ _ _)
  k_with "call ref" => ((with_reducible show wpAny _ _ (call (Value.ref 97) [_, Value.str _ _, Value.str _ _] _) _ _ _); k_dflt (refine' set_box ?Sw144 ?Bw144 ?kaw144 ?kbw144 ?kcw144 ?kdw144 ?kew144 ?kfw144 ?_; (case Sw144 => walk_at "mk_sit"); (case Bw144 => walk_at "box"); (case kaw144 => walk_at "side"); (case kbw144 => walk_at "side"); (case kcw144 => walk_at "side"); (case kdw144 => walk_at "side"); (case kew144 => walk_at "side"); (case kfw144 => walk_at "side"); k_whole); intro _ _ _ _ _ _ _ _ _ _)
  k_with "call ref" => ((with_reducible show wpAny _ _ (call (Value.ref 97) [_, Value.str _ _, Value.str _ _] _) _ _ _); k_dflt (refine' set_bad ?Sw145 ?Bw145 ?kaw145 ?kbw145 ?kcw145 ?kdw145 ?kew145 ?kfw145 ?_; (case kew145 => with_reducible assumption); (case Sw145 => walk_at "mk_sit"); (case Bw145 => walk_at "box"); (case kaw145 => walk_at "side"); (case kbw145 => walk_at "side"); (case kcw145 => walk_at "side"); (case kdw145 => walk_at "side"); (case kfw145 => walk_at "side"); k_whole); intro _ _ _ _ _ _ _ _ _ _ _ _ _ _)
  k_with "call ref" => ((with_reducible show wpAny _ _ (call (Value.ref 97) [_, Value.str _ _, Value.int _ _] _) _ _ _); k_dflt (refine' set_int ?Sw146 ?Bw146 ?kaw146 ?kbw146 ?kcw146 ?kdw146 ?kew146 ?kfw146 ?kgw146 ?_; (case Sw146 => walk_at "mk_sit"); (case Bw146 => walk_at "box"); (case kaw146 => walk_at "side"); (case kbw146 => walk_at "side"); (case kcw146 => walk_at "side"); (case kdw146 => walk_at "side"); (case kew146 => walk_at "side"); (case kfw146 => walk_at "side"); (case kgw146 => walk_at "side"); k_whole); intro _ _ _ _ _ _ _ _ _ _ _ _ _ _)
  k_with "getv" => first | with_reducible assumption | exact getv_none_of (by with_reducible assumption) | exact getv_snoc (by with_reducible assumption) (by with_reducible assumption)
  k_with "call ref" => ((with_reducible show wpAny _ _ (call (Value.ref 174) [_, Value.str _ _, Value.str _ _] _) _ _ _); k_dflt (refine' setdef_some ?Sw148 ?Bw148 ?kaw148 ?kbw148 ?kvw148 ?_; (case Bw148 => walk_at "box"); (case kvw148 => walk_at "getv"); (case Sw148 => walk_at "mk_sit"); (case kaw148 => walk_at "side"); (case kbw148 => walk_at "side"); k_whole); intro _ _ _ _)
  k_with "call ref" => ((with_reducible show wpAny _ _ (call (Value.ref 174) [_, Value.str _ _, Value.str _ _] _) _ _ _); k_dflt (refine' setdef_none ?Sw149 ?Bw149 ?kaw149 ?kbw149 ?kcw149 ?kdw149 ?kew149 ?kfw149 ?kvw149 ?_; (case Bw149 => walk_at "box"); (case kvw149 => walk_at "getv"); (case Sw149 => walk_at "mk_sit"); (case kaw149 => walk_at "side"); (case kbw149 => walk_at "side"); (case kcw149 => walk_at "side"); (case kdw149 => walk_at "side"); (case kew149 => walk_at "side"); (case kfw149 => walk_at "side"); k_whole); intro _ _ _ _ _ _ _ _ _ _)
  k_with "call ref" => ((with_reducible show wpAny _ _ (call (Value.ref 174) [_, Value.str _ _, Value.str _ _] _) _ _ _); k_dflt (refine' setdef_bad ?Sw150 ?kaw150 ?kbw150 ?Bw150 ?_; (case kbw150 => with_reducible assumption); (case Sw150 => walk_at "mk_sit"); (case Bw150 => walk_at "box"); (case kaw150 => walk_at "side"); k_whole); intro _ _ _ _ _ _ _ _ _ _ _)
  k_with "call type:str" => ((with_reducible show wpAny _ _ (call (Value.type "str") [Value.ref _]) _ _ _); (first | refine' str_got_one PySem.F.excStr_AssertionError ?Nw151 ?Gw151 ?Uw151 ?_ | refine' str_got_one PySem.F.excStr_ValueError ?Nw151 ?Gw151 ?Uw151 ?_); (case Gw151 => with_reducible assumption); (case Nw151 => with_reducible assumption); (case Uw151 => exact units_deed (by with_reducible assumption)))
  k_with "side" => exact lt_snoc2 (by with_reducible assumption)
  k_with "side" => exact lt_snoc (by with_reducible assumption)
  k_with "side" => with_reducible assumption
  k_with "kept" => first | with_reducible assumption | exact Kept.refl | (refine' Kept.trans ?kzw155 ?kww155; (case kww155 => with_reducible assumption); (case kzw155 => walk_at "kept")) | (refine' Kept.trans ?kzw155 (Kept.off ?kww155); (case kww155 => with_reducible assumption); (case kzw155 => walk_at "kept")) | (refine' Kept.with ?kzw155 ?kww155; (case kww155 => with_reducible assumption); (case kzw155 => walk_at "kept"))
  k_with "exec If" => refine wpAny_If ?_
  trivial
section
variable {w : World} {A A₀ : Around} {E : Value → Shared → Prop} {s : Shared} {h₀ : Heap} {env : Env} {L x l d : Addr} {tl : Tok} {m mg mb : Str → Option Value} {news : List (Addr × Obj)}
   {p : Program} {loose : List Str} {mean : ExcName → Option Value} {Q : Value → Shared → Prop} {nm : Str} {tk td tt tf ts : Tok} {its : Array Value} {n : Nat} {ps : List (Str × Value)} {deed : Int} {text first second : Str}
theorem deed3 (S : Sit w A A₀ h₀ h₀ env [] L m p loose mean mg mb news s.heap 60) (B : Box w news x l d tl its n ps) (hs : ps.length < 900) (hu : A.units + 64 < cLine) (X : Txts deed text first second) (hno : ∀ q ∈ ps, Txt.lower q.1 ≠ Txt.lower first)
   (h : ∀ h' t' news' its' n' ps' tw, Fr h₀ L h' m → News h₀ L h' news' → Kept l news news' → Box w news' x l d tl its' n' ps' → Did ps ps' 1 (Txt.lower first) → Q (.str (Str.ofString "") tw) {s with heap := h', toks := t'}) :
   wpAny (model pg w) A (call (.ref 195) [.ref x, .ref l, .int 3 tk, .int deed td, .str text tt, .str first tf, .str second ts]) Q E s := by
  obtain ⟨KX, T, B', F, N, hA, hf, hke, hroom, hh⟩ := S
  obtain ⟨f1, f2, f3, s1, s2, s3, he, htm, htc, d0, d1, b7, b9, b10, n7, n9, n10, hy⟩ := X
  have hs1 : ps.length < 1000 := by omega
  have hs3 : ps.length < 990 := by omega
  have hs4 : ps.length < 980 := by omega
  refine wpAny_call ?_
  walk_at "enter_try"
  k_steps
  refine leaveT_box (by assumption) (by assumption) (by assumption) (by assumption) fun F1 N1 => ?_
  exact h _ _ _ _ _ _ _ F1 N1 (by walk_at "kept") (by assumption) (by exact Did.one (.inl rfl))
theorem deed4 (S : Sit w A A₀ h₀ h₀ env [] L m p loose mean mg mb news s.heap 60) (B : Box w news x l d tl its n ps) (hs : ps.length < 900) (hu : A.units + 64 < cLine) (X : Txts deed text first second) (hno : ∀ q ∈ ps, Txt.lower q.1 ≠ Txt.lower first)
   (h : ∀ h' t' news' its' n' ps' tw, Fr h₀ L h' m → News h₀ L h' news' → Kept l news news' → Box w news' x l d tl its' n' ps' → Did ps ps' 1 (Txt.lower first) → Q (.str (Str.ofString "") tw) {s with heap := h', toks := t'}) :
   wpAny (model pg w) A (call (.ref 195) [.ref x, .ref l, .int 4 tk, .int deed td, .str text tt, .str first tf, .str second ts]) Q E s := by
  obtain ⟨KX, T, B', F, N, hA, hf, hke, hroom, hh⟩ := S
  obtain ⟨f1, f2, f3, s1, s2, s3, he, htm, htc, d0, d1, b7, b9, b10, n7, n9, n10, hy⟩ := X
  have hs1 : ps.length < 1000 := by omega
  have hs3 : ps.length < 990 := by omega
  have hs4 : ps.length < 980 := by omega
  refine wpAny_call ?_
  walk_at "enter_try"
  k_steps
  refine leaveT_box (by assumption) (by assumption) (by assumption) (by assumption) fun F1 N1 => ?_
  exact h _ _ _ _ _ _ _ F1 N1 (by walk_at "kept") (by assumption) (by exact Did.one (.inl rfl))
theorem deed6 (S : Sit w A A₀ h₀ h₀ env [] L m p loose mean mg mb news s.heap 60) (B : Box w news x l d tl its n ps) (hs : ps.length < 900) (hu : A.units + 64 < cLine) (X : Txts deed text first second) (hno : ∀ q ∈ ps, Txt.lower q.1 ≠ Txt.lower first)
   (h : ∀ h' t' news' its' n' ps' tw, Fr h₀ L h' m → News h₀ L h' news' → Kept l news news' → Box w news' x l d tl its' n' ps' → Did ps ps' 0 (Txt.lower first) → Q (.str (Str.ofString "") tw) {s with heap := h', toks := t'}) :
   wpAny (model pg w) A (call (.ref 195) [.ref x, .ref l, .int 6 tk, .int deed td, .str text tt, .str first tf, .str second ts]) Q E s := by
  obtain ⟨KX, T, B', F, N, hA, hf, hke, hroom, hh⟩ := S
  obtain ⟨f1, f2, f3, s1, s2, s3, he, htm, htc, d0, d1, b7, b9, b10, n7, n9, n10, hy⟩ := X
  have hs1 : ps.length < 1000 := by omega
  have hs3 : ps.length < 990 := by omega
  have hs4 : ps.length < 980 := by omega
  refine wpAny_call ?_
  walk_at "enter_try"
  k_steps
  refine leaveT_box (by assumption) (by assumption) (by assumption) (by assumption) fun F1 N1 => ?_
  exact h _ _ _ _ _ _ _ F1 N1 (by walk_at "kept") (by assumption) (by rw [he, filter_two hno rfl he]; exact Did.same)
end
end
section
local macro_rules | `(tactic| walk_at "pad") => `(tactic| fail)
theorem kw29 : True := by
  w_top off
  trivial
section
variable {w : World} {A A₀ : Around} {E : Value → Shared → Prop} {s : Shared} {h₀ : Heap} {env : Env} {L x l d : Addr} {tl : Tok} {m mg mb : Str → Option Value} {news : List (Addr × Obj)}
   {p : Program} {loose : List Str} {mean : ExcName → Option Value} {Q : Value → Shared → Prop} {nm : Str} {tk td tt tf ts : Tok} {its : Array Value} {n : Nat} {ps : List (Str × Value)} {deed : Int} {text first second : Str}
theorem deed9 (S : Sit w A A₀ h₀ h₀ env [] L m p loose mean mg mb news s.heap 60) (B : Box w news x l d tl its n ps) (hs : ps.length < 900) (hu : A.units + 64 < cLine) (X : Txts deed text first second) (hno : ∀ q ∈ ps, Txt.lower q.1 ≠ Txt.lower first)
   (h : ∀ h' t' news' its' n' ps' tw, Fr h₀ L h' m → News h₀ L h' news' → Kept l news news' → Box w news' x l d tl its' n' ps' → Did ps ps' 0 (Txt.lower first) → Q (.str errC tw) {s with heap := h', toks := t'}) :
   wpAny (model pg w) A (call (.ref 195) [.ref x, .ref l, .int 9 tk, .int deed td, .str text tt, .str first tf, .str second ts]) Q E s := by
  obtain ⟨KX, T, B', F, N, hA, hf, hke, hroom, hh⟩ := S
  obtain ⟨f1, f2, f3, s1, s2, s3, he, htm, htc, d0, d1, b7, b9, b10, n7, n9, n10, hy⟩ := X
  have hs1 : ps.length < 1000 := by omega
  have hs3 : ps.length < 990 := by omega
  have hs4 : ps.length < 980 := by omega
  refine wpAny_call ?_
  walk_at "enter_try"
  k_steps
  have B9 := B.mono (by assumption)
  refine leaveT_box (by assumption) (by assumption) (by assumption) (by assumption) fun F1 N1 => ?_
  rw [errC_eq]
  exact h _ _ _ _ _ _ _ F1 N1 (by walk_at "kept") (by assumption) (by exact Did.same)
theorem deed10 (S : Sit w A A₀ h₀ h₀ env [] L m p loose mean mg mb news s.heap 60) (B : Box w news x l d tl its n ps) (hs : ps.length < 900) (hu : A.units + 64 < cLine) (X : Txts deed text first second) (hno : ∀ q ∈ ps, Txt.lower q.1 ≠ Txt.lower first)
   (h : ∀ h' t' news' its' n' ps' tw, Fr h₀ L h' m → News h₀ L h' news' → Kept l news news' → Box w news' x l d tl its' n' ps' → Did ps ps' 0 (Txt.lower first) → Q (.str errC tw) {s with heap := h', toks := t'}) :
   wpAny (model pg w) A (call (.ref 195) [.ref x, .ref l, .int 10 tk, .int deed td, .str text tt, .str first tf, .str second ts]) Q E s := by
  obtain ⟨KX, T, B', F, N, hA, hf, hke, hroom, hh⟩ := S
  obtain ⟨f1, f2, f3, s1, s2, s3, he, htm, htc, d0, d1, b7, b9, b10, n7, n9, n10, hy⟩ := X
  have hs1 : ps.length < 1000 := by omega
  have hs3 : ps.length < 990 := by omega
  have hs4 : ps.length < 980 := by omega
  refine wpAny_call ?_
  walk_at "enter_try"
  k_steps
  have B9 := B.mono (by assumption)
  refine leaveT_box (by assumption) (by assumption) (by assumption) (by assumption) fun F1 N1 => ?_
  rw [errC_eq]
  exact h _ _ _ _ _ _ _ F1 N1 (by walk_at "kept") (by assumption) (by exact Did.same)
theorem deed11 (S : Sit w A A₀ h₀ h₀ env [] L m p loose mean mg mb news s.heap 60) (B : Box w news x l d tl its n ps) (hs : ps.length < 900) (hu : A.units + 64 < cLine) (X : Txts deed text first second) (hno : ∀ q ∈ ps, Txt.lower q.1 ≠ Txt.lower first)
   (h : ∀ h' t' news' its' n' ps' tw, Fr h₀ L h' m → News h₀ L h' news' → Kept l news news' → Box w news' x l d tl its' n' ps' → Did ps ps' 0 (Txt.lower first) → Q (.str (errA deed) tw) {s with heap := h', toks := t'}) :
   wpAny (model pg w) A (call (.ref 195) [.ref x, .ref l, .int 11 tk, .int deed td, .str text tt, .str first tf, .str second ts]) Q E s := by
  obtain ⟨KX, T, B', F, N, hA, hf, hke, hroom, hh⟩ := S
  obtain ⟨f1, f2, f3, s1, s2, s3, he, htm, htc, d0, d1, b7, b9, b10, n7, n9, n10, hy⟩ := X
  have hs1 : ps.length < 1000 := by omega
  have hs3 : ps.length < 990 := by omega
  have hs4 : ps.length < 980 := by omega
  refine wpAny_call ?_
  walk_at "enter_try"
  k_steps
  have B9 := B.mono (by assumption)
  refine leaveT_box (by assumption) (by assumption) (by assumption) (by assumption) fun F1 N1 => ?_
  rw [err_eq]
  exact h _ _ _ _ _ _ _ F1 N1 (by walk_at "kept") (by assumption) (by exact Did.same)
theorem deed7 (S : Sit w A A₀ h₀ h₀ env [] L m p loose mean mg mb news s.heap 60) (B : Box w news x l d tl its n ps) (hs : ps.length < 900) (hu : A.units + 64 < cLine) (X : Txts deed text first second) (hno : ∀ q ∈ ps, Txt.lower q.1 ≠ Txt.lower first)
   (h : ∀ h' t' news' its' n' ps' tw, Fr h₀ L h' m → News h₀ L h' news' → Kept l news news' → Box w news' x l d tl its' n' ps' → Did ps ps' 0 (Txt.lower first) → Q (.str errC tw) {s with heap := h', toks := t'}) :
   wpAny (model pg w) A (call (.ref 195) [.ref x, .ref l, .int 7 tk, .int deed td, .str text tt, .str first tf, .str second ts]) Q E s := by
  obtain ⟨KX, T, B', F, N, hA, hf, hke, hroom, hh⟩ := S
  obtain ⟨f1, f2, f3, s1, s2, s3, he, htm, htc, d0, d1, b7, b9, b10, n7, n9, n10, hy⟩ := X
  have hs1 : ps.length < 1000 := by omega
  have hs3 : ps.length < 990 := by omega
  have hs4 : ps.length < 980 := by omega
  have z0 : (0 : Int) ≤ 7 := by decide
  have z1 : (7 : Int) < 12 := by decide
  have z2 : (Str.ofString (toString (7 : Int))).length ≤ 100000 := by decide +kernel
  have e1 := filter_no hno
  have hs2 : (ps.filter (fun q => !(Txt.lower q.1 == Txt.lower first))).length < 990 := by rw [e1]; omega
  refine wpAny_call ?_
  walk_at "enter_try"
  k_steps
  refine leaveT_box (by assumption) (by assumption) (by assumption) (by assumption) fun F1 N1 => ?_
  rw [errC_eq]
  exact h _ _ _ _ _ _ _ F1 N1 (by walk_at "kept") (by assumption) (by rw [he, filter_no hno, filter_one hno rfl]; exact Did.same)
end
end
end
section
theorem kw31 : True := by
  w_top off
  k_with_none
  k_with "k_room" => first | ((try simp only [depth_under_make, depth_under_kw, depth_in1, depth_deeper, depth_caller]); omega) | decide
  k_with "code_def" => (refine' code_def ?k1w2 ?k2w2 ?k3w2 ?k4w2 ?k5w2 ?kAw2 ?kFw2 ?kKw2 ?k6w2 ?k7w2 ?k8w2 ?k9w2 ?kBw2 ?_ ?c2w2 ?c3w2 ?c4w2 ?c5w2; (case k1w2 => k_asm); (case k2w2 => k_asm); (case k3w2 => k_asm); (case k4w2 => k_asm); (case k5w2 => k_asm); (case kAw2 => assumption); (case kFw2 => assumption); (case kKw2 => assumption);  (case k6w2 => k_is); (case k7w2 => k_is); (case k8w2 => k_room); (case k9w2 => first | exact BindsTo.of_eq rfl | exact binds_K (by k_in) rfl (by k_is) rfl rfl rfl | fail "k_enter: no rule for these arguments"); (case c5w2 => decide); (case kBw2 => exact locs rfl); (case c2w2 => exact rfl); (case c3w2 => exact rfl); (case c4w2 => exact rfl))
  k_with "code_defC" => (refine' code_defC ?k1w3 ?k2w3 ?k3w3 ?k4w3 ?k5w3 ?kAw3 ?kFw3 ?kKw3 ?k6w3 ?k7w3 ?k8w3 ?k9w3 ?kBw3 ?kDw3 ?_ ?c2w3 ?c3w3 ?c4w3; (case k1w3 => k_asm); (case k2w3 => k_asm); (case k3w3 => k_asm); (case k4w3 => k_asm); (case k5w3 => k_asm); (case kAw3 => assumption); (case kFw3 => assumption); (case kKw3 => assumption); (case k6w3 => k_is); (case k7w3 => k_is); (case k8w3 => k_room); (case k9w3 => first | exact BindsTo.of_eq rfl | exact binds_K (by k_in) rfl (by k_is) rfl rfl rfl | fail "k_enter: no rule for these arguments"); (case kBw3 => exact rfl); (case kDw3 => decide +kernel); (case c2w3 => exact rfl); (case c3w3 => exact rfl); (case c4w3 => exact rfl))
  k_with "k_mem" => first | assumption | exact List.Mem.head _ | (refine' List.Mem.tail _ ?_; k_mem)
  k_with "k_all" => exact all_ne_of_lt (by assumption) (by first | exact Nat.le_refl _ | exact Nat.le_succ _ | omega)
  k_with "call builtin:str.lower" => (refine PyProof.Rows.SCL.lower (by omega) ?_; intro _)
  k_with "eval ListComp" => refine hold_intro ?_
  k_with "eval Slice none none none" => (refine slice_K (by assumption) (by assumption) ?_; intro _ _ _ _; (try k_sweep))
  k_with "setItem ref ref ref" => refine hold_intro ?_
  k_with "exec Assign cons ListComp" => ((with_reducible show wpAny _ _ (exec (Stmt.Assign [Expr.Subscript _ _ _] _ _) _) _ _ _); refine wpAny_Assign_Subscript ?_)
  k_with "call builtin:len" => (refine' len_L ?Nw11 ?hlw11 ?hsw11 ?_; (case Nw11 => k_asm); (case hlw11 => k_mem); (case hsw11 => omega); intro _ _)
  k_with "subscriptTail Name Slice ref ref" => ((with_reducible show wpAny _ _ (subscriptTail _ _ (Value.ref _) (Value.ref _)) _ _ _); refine' copy_L ?Fw12 ?Nw12 ?hlw12 ?hsw12 ?hzw12 ?_ ?hew12; (case Fw12 => k_asm); (case Nw12 => k_asm); (case hlw12 => k_mem); (case hsw12 => exact List.Mem.head _); (case hzw12 => rw [sizeLine_eq]; omega); (case hew12 => with_unfolding_all rfl); intro _ _ _ _ _; (try k_sweep))
  k_with "kp_more" => (refine' kp_more ?k1w13 ?k2w13 ?k3w13 ?k4w13 ?k5w13 ?kAw13 ?kFw13 ?kKw13 ?k6w13 ?k7w13 ?k8w13 ?kXw13 ?kMw13 ?kNw13 ?kDw13 ?kRw13 ?kPw13 ?kTw13 ?kBw13 ?_ ?c2w13 ?c3w13 ?c4w13 ?c5w13; (case kAw13 => assumption); (case kFw13 => assumption); (case kKw13 => assumption); (case k1w13 => k_asm); (case k2w13 => k_asm); (case k3w13 => k_asm); (case k4w13 => k_asm); (case k5w13 => k_asm); (case k6w13 => k_is); (case k7w13 => k_is); (case k8w13 => k_room); (case kXw13 => kp_lit); (case kMw13 => exact rfl); (case kNw13 => exact rfl); (case kDw13 => kp_flats); (case kRw13 => exact rfl); (case kPw13 => exact rfl); (case kTw13 => exact fun _ => rfl); (case kBw13 => exact fun _ => locs rfl); (case c5w13 => decide); (case c2w13 => exact rfl); (case c3w13 => exact rfl); (case c4w13 => exact rfl))
  k_with "exec For Tuple Name" => refine hold_intro ?_
  k_with "exec For Tuple Call" => refine hold_intro ?_
  k_with "exec For Tuple Call cons nil" => refine hold_intro ?_
  k_with "exec For Tuple Name cons nil" => refine hold_intro ?_
  k_with "call builtin:list.append" => (refine' append_L ?Fw18 ?Nw18 ?hlw18 ?_ ?hzw18; (case Fw18 => k_asm); (case Nw18 => k_asm); (case hlw18 => k_mem); (case hzw18 => (rw [sizeLine_eq]; omega)); intro _ _ _)
  k_with "mk_sit" => (refine' Sit.mk ?KXw19 ?Tw19 ?Bw19 ?Fw19 ?Nw19 ?hAw19 ?hfw19 ?hkew19 ?hroomw19 ?hhw19; (case KXw19 => k_asm); (case Tw19 => k_asm); (case Bw19 => k_asm); (case Fw19 => k_asm); (case Nw19 => k_asm); (case hAw19 => first | with_reducible assumption | exact Around.frames_deeper (Below.stack (by with_reducible assumption)) | rfl); (case hfw19 => first | with_reducible assumption | rfl); (case hkew19 => first | with_reducible assumption | rfl); (case hroomw19 => k_room); (case hhw19 => first | with_reducible assumption | exact handled_deeper (by with_reducible assumption) | assumption | rfl))
  k_with "call ref" => ((with_reducible show wpAny _ _ (call (Value.ref 83) [_, Value.str _ _] (List.zip _ [Value.bool true])) _ _ _); k_dflt (refine' conv_name ?Sw20 ?kaw20 ?kbw20 ?_; (case Sw20 => walk_at "mk_sit"); (case kaw20 => k_asm); (case kbw20 => k_asm); k_whole); intro _ _ _ _)
  k_with "call ref" => ((with_reducible show wpAny _ _ (call (Value.ref 83) [_, Value.str _ _] (List.zip _ [Value.bool false])) _ _ _); k_dflt (refine' conv_val ?Sw21 ?kaw21 ?kbw21 ?_; (case Sw21 => walk_at "mk_sit"); (case kaw21 => k_asm); (case kbw21 => k_asm); k_whole); intro _ _ _ _)
  k_with "box" => first | with_reducible assumption | exact Box.tail (by with_reducible assumption) | exact Box.tail (Box.tail (by with_reducible assumption)) | exact Box.tail (Box.tail (Box.tail (by with_reducible assumption))) | exact Box.tail (Box.tail (Box.tail (Box.tail (by with_reducible assumption))))
  k_with "k_mem" => first | with_reducible assumption | exact Box.hx (by with_reducible assumption) | exact Box.hd (by with_reducible assumption) | exact Box.hl (by with_reducible assumption) | exact List.Mem.head _ | (refine' List.Mem.tail _ ?_; k_mem) | (refine' Kept.mem (by with_reducible assumption) ?_ ?_; (k_mem); (first | with_reducible assumption | exact Ne.symm (by with_reducible assumption)))
  k_with "call ref" => ((with_reducible show wpAny _ _ (call (Value.ref 102) [_, Value.str _ _] _) _ _ _); k_dflt (refine' box_del ?Sw24 ?Bw24 ?kaw24 ?kbw24 ?_; (case Sw24 => walk_at "mk_sit"); (case Bw24 => walk_at "box"); (case kaw24 => walk_at "side"); (case kbw24 => walk_at "side"); k_whole); intro _ _ _ _ _ _ _ _ _)
  k_with "call ref" => ((with_reducible show wpAny _ _ (call (Value.ref 123) [_, Value.str _ _] _) _ _ _); k_dflt (refine' box_get ?Sw25 ?Bw25 ?kaw25 ?kbw25 ?_; (case Sw25 => walk_at "mk_sit"); (case Bw25 => walk_at "box"); (case kaw25 => walk_at "side"); (case kbw25 => walk_at "side"); k_whole); intro _ _ _ _ _ _ _ _ _)
  k_with "call ref" => ((with_reducible show wpAny _ _ (call (Value.ref 181) [_, Value.str _ _, Value.none] _) _ _ _); k_dflt (refine' box_none ?Sw26 ?Bw26 ?kaw26 ?kbw26 ?kcw26 ?_; (case Sw26 => walk_at "mk_sit"); (case Bw26 => walk_at "box"); (case kaw26 => walk_at "side"); (case kbw26 => walk_at "side"); (case kcw26 => walk_at "side"); k_whole); intro _ _ _ _ _ _ _ _ _ _)
  k_with "call ref" => ((with_reducible show wpAny _ _ (call (Value.ref 181) [_, Value.str _ _, Value.str _ _] _) _ _ _); k_dflt (refine' box_str ?Sw27 ?Bw27 ?kaw27 ?kbw27 ?kcw27 ?kdw27 ?kew27 ?_; (case Sw27 => walk_at "mk_sit"); (case Bw27 => walk_at "box"); (case kaw27 => walk_at "side"); (case kbw27 => walk_at "side"); (case kcw27 => walk_at "side"); (case kdw27 => walk_at "side"); (case kew27 => walk_at "side"); k_whole); intro _ _ _ _ _ _ _ _ _ _)
  k_with "call ref" => ((show wpAny _ _ (call (Value.ref 148) [Value.ref _]) _ _ _); k_dflt (refine' box_items ?Sw28 ?Bw28 ?_; (case Sw28 => walk_at "mk_sit"); (case Bw28 => walk_at "box"); k_whole); intro _ _ _ _ _ _)
  k_with "side" => first | with_reducible assumption | decide | omega
  k_with "call builtin:len" => (k_dflt (refine' box_len ?Sw30 ?Bw30 ?_; (case Sw30 => walk_at "mk_sit"); (case Bw30 => walk_at "box"); k_whole); intro _ _ _ _ _)
  k_with "call builtin:list.append" => (refine' append_K ?Fw31 ?Nw31 ?hlw31 ?hzw31 ?_; (case Fw31 => k_asm); (case Nw31 => k_asm); (case hlw31 => k_mem); (case hzw31 => (rw [sizeLine_eq]; first | omega | decide)); intro _ _ _ _ _ _)
  k_with "call builtin:list.append" => (refine' box_tell ?Fw32 ?Nw32 ?Bw32 ?htw32 ?hnew32 ?hsw32 ?_; (case Fw32 => k_asm); (case Nw32 => k_asm); (case Bw32 => walk_at "box"); (case htw32 => k_mem); (case hnew32 => assumption); (case hsw32 => walk_at "side"); intro _ _ _ _ _ _ _)
  k_with "call builtin:list.append" => (refine' box_append ?Fw33 ?Nw33 ?Bw33 ?htw33 ?hsw33 ?hzw33 ?_; (case Fw33 => k_asm); (case Nw33 => k_asm); (case Bw33 => walk_at "box"); (case htw33 => exact List.Mem.head _); (case hsw33 => walk_at "side"); (case hzw33 => walk_at "side"); intro _ _ _ _ _ _)
  k_with "exec For Name Call" => refine hold_intro ?_
  k_with "exec For Name Name" => refine hold_intro ?_
  k_with "exec For Name Name cons nil" => refine hold_intro ?_
  k_with "exec For Name Call cons nil" => refine hold_intro ?_
  k_with "kept2" => first | assumption | exact Kept2.start | (refine' Kept2.tail ?_; walk_at "kept2") | (refine' Kept2.left ?kzw38 ?kww38; (case kww38 => assumption); (case kzw38 => walk_at "kept2")) | (refine' Kept2.right ?kzw38 ?kww38; (case kww38 => assumption); (case kzw38 => walk_at "kept2")) | (refine' Kept2.both ?kzw38 ?kww38; (case kww38 => with_reducible assumption); (case kzw38 => walk_at "kept2"))
  k_with "agree" => first | assumption | exact Agree.start | (refine' Agree.set ?_ ?kww39; (case kww39 => decide); walk_at "agree")
  k_with "delItem ref str" => (k_dflt (refine' delItem_own ?Fw40 ?Xw40 ?Iw40 ?hQw40 ?hSw40 ?hFw40 ?_; (case Fw40 => k_asm); (case Xw40 => k_asm); (case Iw40 => k_inst); (case hSw40 => k_is); (case hFw40 => k_is); (case hQw40 => k_is); k_whole))
  k_with "call builtin:len" => (refine' len_L ?Nw41 ?hlw41 ?hsw41 ?_; (case hlw41 => k_mem); (case hsw41 => with_reducible assumption); (case Nw41 => k_asm); intro _ _)
  trivial
def wordsOf (k : Int) (deed : Int) : Str := if k = 7 ∨ k = 9 ∨ k = 10 then errC else if k = 8 then errA 7 else if k = 11 then errA deed else Str.ofString ""
def laidOf (k : Int) : Nat := if k < 6 then 1 else 0
theorem kw30 : True := by
  k_with "exec If" => refine wpAny_If ?_
  trivial
section
variable {w : World} {A A₀ : Around} {E : Value → Shared → Prop} {s : Shared} {h₀ base : Heap} {env : Env} {outer : List Env} {L x l d : Addr} {tl : Tok} {m mg mb : Str → Option Value} {news : List (Addr × Obj)}
   {p : Program} {loose : List Str} {mean : ExcName → Option Value} {Q : Value → Shared → Prop} {nm : Str} {tk td tt tf ts : Tok} {its : Array Value} {n : Nat} {ps : List (Str × Value)} {deed : Int} {text first second : Str}
theorem deeds {k : Int} (S : Sit w A A₀ h₀ h₀ env [] L m p loose mean mg mb news s.heap 60) (B : Box w news x l d tl its n ps) (hs : ps.length < 900) (hu : A.units + 64 < cLine) (X : Txts deed text first second) (hno : ∀ q ∈ ps, Txt.lower q.1 ≠ Txt.lower first) (k0 : 0 ≤ k) (k1 : k < 12)
   (h : ∀ h' t' news' its' n' ps' tw, Fr h₀ L h' m → News h₀ L h' news' → Kept l news news' → Box w news' x l d tl its' n' ps' → Did ps ps' (laidOf k) (Txt.lower first) → Q (.str (wordsOf k deed) tw) {s with heap := h', toks := t'}) :
   wpAny (model pg w) A (call (.ref 195) [.ref x, .ref l, .int k tk, .int deed td, .str text tt, .str first tf, .str second ts]) Q E s := by
  have hk : k = 0 ∨ k = 1 ∨ k = 2 ∨ k = 3 ∨ k = 4 ∨ k = 5 ∨ k = 6 ∨ k = 7 ∨ k = 8 ∨ k = 9 ∨ k = 10 ∨ k = 11 := by omega
  rcases hk with rfl | rfl | rfl | rfl | rfl | rfl | rfl | rfl | rfl | rfl | rfl | rfl
  · exact deed0 S B hs hu X hno h
  · exact deed1 S B hs hu X hno h
  · exact deed2 S B hs hu X hno h
  · exact deed3 S B hs hu X hno h
  · exact deed4 S B hs hu X hno h
  · exact deed5 S B hs hu X hno h
  · exact deed6 S B hs hu X hno h
  · exact deed7 S B hs hu X hno h
  · exact deed8 S B hs hu X hno h
  · exact deed9 S B hs hu X hno h
  · exact deed10 S B hs hu X hno h
  · exact deed11 S B hs hu X hno h
theorem words_spec {k : Int} (S : Sit w A A₀ base h₀ env outer L m p loose mean mg mb news s.heap 20) (k0 : 0 ≤ k) (k1 : k < 12) (d0 : 0 ≤ deed) (d1 : deed < 12)
   (h : ∀ h' t' tw, Fr h₀ L h' m → News h₀ L h' news → Q (.str (wordsOf k deed) tw) {s with heap := h', toks := t'}) :
   wpAny (model pg w) A (call (.ref 202) [.int k tk, .int deed td]) Q E s := by
  obtain ⟨KX, T, B', F, N, hA, hf, hke, hroom, hh⟩ := S
  have hk : k = 0 ∨ k = 1 ∨ k = 2 ∨ k = 3 ∨ k = 4 ∨ k = 5 ∨ k = 6 ∨ k = 7 ∨ k = 8 ∨ k = 9 ∨ k = 10 ∨ k = 11 := by omega
  rcases hk with rfl | rfl | rfl | rfl | rfl | rfl | rfl | rfl | rfl | rfl | rfl | rfl
  all_goals
    refine wpAny_call ?_
    k_enter
    k_steps
    exact h _ _ _ (by assumption) (news_mono (by assumption) fun q hq => by first | exact hq | exact .tail _ hq | exact .tail _ (.tail _ hq))
end
end
section
local macro_rules | `(tactic| walk_at "pad") => `(tactic| fail)
theorem kw33 : True := by
  w_top off
  k_with_none
  k_with "k_room" => first | ((try simp only [depth_under_make, depth_under_kw, depth_in1, depth_deeper, depth_caller]); omega) | decide
  k_with "code_def" => (refine' code_def ?k1w2 ?k2w2 ?k3w2 ?k4w2 ?k5w2 ?kAw2 ?kFw2 ?kKw2 ?k6w2 ?k7w2 ?k8w2 ?k9w2 ?kBw2 ?_ ?c2w2 ?c3w2 ?c4w2 ?c5w2; (case k1w2 => k_asm); (case k2w2 => k_asm); (case k3w2 => k_asm); (case k4w2 => k_asm); (case k5w2 => k_asm); (case kAw2 => assumption); (case kFw2 => assumption); (case kKw2 => assumption);  (case k6w2 => k_is); (case k7w2 => k_is); (case k8w2 => k_room); (case k9w2 => first | exact BindsTo.of_eq rfl | exact binds_K (by k_in) rfl (by k_is) rfl rfl rfl | fail "k_enter: no rule for these arguments"); (case c5w2 => decide); (case kBw2 => exact locs rfl); (case c2w2 => exact rfl); (case c3w2 => exact rfl); (case c4w2 => exact rfl))
  k_with "code_defC" => (refine' code_defC ?k1w3 ?k2w3 ?k3w3 ?k4w3 ?k5w3 ?kAw3 ?kFw3 ?kKw3 ?k6w3 ?k7w3 ?k8w3 ?k9w3 ?kBw3 ?kDw3 ?_ ?c2w3 ?c3w3 ?c4w3; (case k1w3 => k_asm); (case k2w3 => k_asm); (case k3w3 => k_asm); (case k4w3 => k_asm); (case k5w3 => k_asm); (case kAw3 => assumption); (case kFw3 => assumption); (case kKw3 => assumption); (case k6w3 => k_is); (case k7w3 => k_is); (case k8w3 => k_room); (case k9w3 => first | exact BindsTo.of_eq rfl | exact binds_K (by k_in) rfl (by k_is) rfl rfl rfl | fail "k_enter: no rule for these arguments"); (case kBw3 => exact rfl); (case kDw3 => decide +kernel); (case c2w3 => exact rfl); (case c3w3 => exact rfl); (case c4w3 => exact rfl))
  k_with "k_mem" => first | assumption | exact List.Mem.head _ | (refine' List.Mem.tail _ ?_; k_mem)
  k_with "k_all" => exact all_ne_of_lt (by assumption) (by first | exact Nat.le_refl _ | exact Nat.le_succ _ | omega)
  k_with "call builtin:str.lower" => (refine PyProof.Rows.SCL.lower (by omega) ?_; intro _)
  k_with "eval ListComp" => refine hold_intro ?_
  k_with "eval Slice none none none" => (refine slice_K (by assumption) (by assumption) ?_; intro _ _ _ _; (try k_sweep))
  k_with "setItem ref ref ref" => refine hold_intro ?_
  k_with "exec Assign cons ListComp" => ((with_reducible show wpAny _ _ (exec (Stmt.Assign [Expr.Subscript _ _ _] _ _) _) _ _ _); refine wpAny_Assign_Subscript ?_)
  k_with "call builtin:len" => (refine' len_L ?Nw11 ?hlw11 ?hsw11 ?_; (case Nw11 => k_asm); (case hlw11 => k_mem); (case hsw11 => omega); intro _ _)
  k_with "subscriptTail Name Slice ref ref" => ((with_reducible show wpAny _ _ (subscriptTail _ _ (Value.ref _) (Value.ref _)) _ _ _); refine' copy_L ?Fw12 ?Nw12 ?hlw12 ?hsw12 ?hzw12 ?_ ?hew12; (case Fw12 => k_asm); (case Nw12 => k_asm); (case hlw12 => k_mem); (case hsw12 => exact List.Mem.head _); (case hzw12 => rw [sizeLine_eq]; omega); (case hew12 => with_unfolding_all rfl); intro _ _ _ _ _; (try k_sweep))
  k_with "kp_more" => (refine' kp_more ?k1w13 ?k2w13 ?k3w13 ?k4w13 ?k5w13 ?kAw13 ?kFw13 ?kKw13 ?k6w13 ?k7w13 ?k8w13 ?kXw13 ?kMw13 ?kNw13 ?kDw13 ?kRw13 ?kPw13 ?kTw13 ?kBw13 ?_ ?c2w13 ?c3w13 ?c4w13 ?c5w13; (case kAw13 => assumption); (case kFw13 => assumption); (case kKw13 => assumption); (case k1w13 => k_asm); (case k2w13 => k_asm); (case k3w13 => k_asm); (case k4w13 => k_asm); (case k5w13 => k_asm); (case k6w13 => k_is); (case k7w13 => k_is); (case k8w13 => k_room); (case kXw13 => kp_lit); (case kMw13 => exact rfl); (case kNw13 => exact rfl); (case kDw13 => kp_flats); (case kRw13 => exact rfl); (case kPw13 => exact rfl); (case kTw13 => exact fun _ => rfl); (case kBw13 => exact fun _ => locs rfl); (case c5w13 => decide); (case c2w13 => exact rfl); (case c3w13 => exact rfl); (case c4w13 => exact rfl))
  k_with "exec For Tuple Name" => refine hold_intro ?_
  k_with "exec For Tuple Call" => refine hold_intro ?_
  k_with "exec For Tuple Call cons nil" => refine hold_intro ?_
  k_with "exec For Tuple Name cons nil" => refine hold_intro ?_
  k_with "call builtin:list.append" => (refine' append_L ?Fw18 ?Nw18 ?hlw18 ?_ ?hzw18; (case Fw18 => k_asm); (case Nw18 => k_asm); (case hlw18 => k_mem); (case hzw18 => (rw [sizeLine_eq]; omega)); intro _ _ _)
  k_with "mk_sit" => (refine' Sit.mk ?KXw19 ?Tw19 ?Bw19 ?Fw19 ?Nw19 ?hAw19 ?hfw19 ?hkew19 ?hroomw19 ?hhw19; (case KXw19 => k_asm); (case Tw19 => k_asm); (case Bw19 => k_asm); (case Fw19 => k_asm); (case Nw19 => k_asm); (case hAw19 => first | with_reducible assumption | exact Around.frames_deeper (Below.stack (by with_reducible assumption)) | rfl); (case hfw19 => first | with_reducible assumption | rfl); (case hkew19 => first | with_reducible assumption | rfl); (case hroomw19 => k_room); (case hhw19 => first | with_reducible assumption | exact handled_deeper (by with_reducible assumption) | assumption | rfl))
  k_with "call ref" => ((with_reducible show wpAny _ _ (call (Value.ref 83) [_, Value.str _ _] (List.zip _ [Value.bool true])) _ _ _); k_dflt (refine' conv_name ?Sw20 ?kaw20 ?kbw20 ?_; (case Sw20 => walk_at "mk_sit"); (case kaw20 => k_asm); (case kbw20 => k_asm); k_whole); intro _ _ _ _)
  k_with "call ref" => ((with_reducible show wpAny _ _ (call (Value.ref 83) [_, Value.str _ _] (List.zip _ [Value.bool false])) _ _ _); k_dflt (refine' conv_val ?Sw21 ?kaw21 ?kbw21 ?_; (case Sw21 => walk_at "mk_sit"); (case kaw21 => k_asm); (case kbw21 => k_asm); k_whole); intro _ _ _ _)
  k_with "box" => first | with_reducible assumption | exact Box.tail (by with_reducible assumption) | exact Box.tail (Box.tail (by with_reducible assumption)) | exact Box.tail (Box.tail (Box.tail (by with_reducible assumption))) | exact Box.tail (Box.tail (Box.tail (Box.tail (by with_reducible assumption))))
  k_with "k_mem" => first | with_reducible assumption | exact Box.hx (by with_reducible assumption) | exact Box.hd (by with_reducible assumption) | exact Box.hl (by with_reducible assumption) | exact List.Mem.head _ | (refine' List.Mem.tail _ ?_; k_mem) | (refine' Kept.mem (by with_reducible assumption) ?_ ?_; (k_mem); (first | with_reducible assumption | exact Ne.symm (by with_reducible assumption)))
  k_with "call ref" => ((with_reducible show wpAny _ _ (call (Value.ref 102) [_, Value.str _ _] _) _ _ _); k_dflt (refine' box_del ?Sw24 ?Bw24 ?kaw24 ?kbw24 ?_; (case Sw24 => walk_at "mk_sit"); (case Bw24 => walk_at "box"); (case kaw24 => walk_at "side"); (case kbw24 => walk_at "side"); k_whole); intro _ _ _ _ _ _ _ _ _)
  k_with "call ref" => ((with_reducible show wpAny _ _ (call (Value.ref 123) [_, Value.str _ _] _) _ _ _); k_dflt (refine' box_get ?Sw25 ?Bw25 ?kaw25 ?kbw25 ?_; (case Sw25 => walk_at "mk_sit"); (case Bw25 => walk_at "box"); (case kaw25 => walk_at "side"); (case kbw25 => walk_at "side"); k_whole); intro _ _ _ _ _ _ _ _ _)
  k_with "call ref" => ((with_reducible show wpAny _ _ (call (Value.ref 181) [_, Value.str _ _, Value.none] _) _ _ _); k_dflt (refine' box_none ?Sw26 ?Bw26 ?kaw26 ?kbw26 ?kcw26 ?_; (case Sw26 => walk_at "mk_sit"); (case Bw26 => walk_at "box"); (case kaw26 => walk_at "side"); (case kbw26 => walk_at "side"); (case kcw26 => walk_at "side"); k_whole); intro _ _ _ _ _ _ _ _ _ _)
  k_with "call ref" => ((with_reducible show wpAny _ _ (call (Value.ref 181) [_, Value.str _ _, Value.str _ _] _) _ _ _); k_dflt (refine' box_str ?Sw27 ?Bw27 ?kaw27 ?kbw27 ?kcw27 ?kdw27 ?kew27 ?_; (case Sw27 => walk_at "mk_sit"); (case Bw27 => walk_at "box"); (case kaw27 => walk_at "side"); (case kbw27 => walk_at "side"); (case kcw27 => walk_at "side"); (case kdw27 => walk_at "side"); (case kew27 => walk_at "side"); k_whole); intro _ _ _ _ _ _ _ _ _ _)
  k_with "call ref" => ((show wpAny _ _ (call (Value.ref 148) [Value.ref _]) _ _ _); k_dflt (refine' box_items ?Sw28 ?Bw28 ?_; (case Sw28 => walk_at "mk_sit"); (case Bw28 => walk_at "box"); k_whole); intro _ _ _ _ _ _)
  k_with "side" => first | with_reducible assumption | decide | omega
  k_with "call builtin:len" => (k_dflt (refine' box_len ?Sw30 ?Bw30 ?_; (case Sw30 => walk_at "mk_sit"); (case Bw30 => walk_at "box"); k_whole); intro _ _ _ _ _)
  k_with "call builtin:list.append" => (refine' append_K ?Fw31 ?Nw31 ?hlw31 ?hzw31 ?_; (case Fw31 => k_asm); (case Nw31 => k_asm); (case hlw31 => k_mem); (case hzw31 => (rw [sizeLine_eq]; first | omega | decide)); intro _ _ _ _ _ _)
  k_with "call builtin:list.append" => (refine' box_tell ?Fw32 ?Nw32 ?Bw32 ?htw32 ?hnew32 ?hsw32 ?_; (case Fw32 => k_asm); (case Nw32 => k_asm); (case Bw32 => walk_at "box"); (case htw32 => k_mem); (case hnew32 => assumption); (case hsw32 => walk_at "side"); intro _ _ _ _ _ _ _)
  k_with "call builtin:list.append" => (refine' box_append ?Fw33 ?Nw33 ?Bw33 ?htw33 ?hsw33 ?hzw33 ?_; (case Fw33 => k_asm); (case Nw33 => k_asm); (case Bw33 => walk_at "box"); (case htw33 => exact List.Mem.head _); (case hsw33 => walk_at "side"); (case hzw33 => walk_at "side"); intro _ _ _ _ _ _)
  k_with "exec For Name Call" => refine hold_intro ?_
  k_with "exec For Name Name" => refine hold_intro ?_
  k_with "exec For Name Name cons nil" => refine hold_intro ?_
  k_with "exec For Name Call cons nil" => refine hold_intro ?_
  k_with "kept2" => first | assumption | exact Kept2.start | (refine' Kept2.tail ?_; walk_at "kept2") | (refine' Kept2.left ?kzw38 ?kww38; (case kww38 => assumption); (case kzw38 => walk_at "kept2")) | (refine' Kept2.right ?kzw38 ?kww38; (case kww38 => assumption); (case kzw38 => walk_at "kept2")) | (refine' Kept2.both ?kzw38 ?kww38; (case kww38 => with_reducible assumption); (case kzw38 => walk_at "kept2"))
  k_with "agree" => first | assumption | exact Agree.start | (refine' Agree.set ?_ ?kww39; (case kww39 => decide); walk_at "agree")
  k_with "delItem ref str" => (k_dflt (refine' delItem_own ?Fw40 ?Xw40 ?Iw40 ?hQw40 ?hSw40 ?hFw40 ?_; (case Fw40 => k_asm); (case Xw40 => k_asm); (case Iw40 => k_inst); (case hSw40 => k_is); (case hFw40 => k_is); (case hQw40 => k_is); k_whole))
  k_with "call builtin:len" => (refine' len_L ?Nw41 ?hlw41 ?hsw41 ?_; (case hlw41 => k_mem); (case hsw41 => with_reducible assumption); (case Nw41 => k_asm); intro _ _)
  trivial
def tripObj (a b c : Value) : Obj := { cls := .type "tuple", data := .seq #[a, b, c] }
def scalesL : List (List Int × Int × Int) := [([0, 1, 3, 5, 7], 1, 1), ([0, 2, 3, 6, 7], 2, 1), ([0, 1, 5], 3, 1), ([0, 1, 2, 5, 6], 3, 2), ([0, 4, 5, 6, 7], 4, 1), ([0, 1, 3], 5, 1), ([0, 1, 3, 4, 6], 5, 2), ([0, 2, 3], 6, 1), ([0, 2, 3, 4, 5], 6, 2), ([0, 1], 7, 1), ([0, 1, 2], 7, 2), ([0, 1, 2, 4, 7], 7, 4)]
def ScaleAt (n : List (Addr × Obj)) (v : Value) (q : List Int × Int × Int) : Prop := ∃ t o a c tn tw, v = .ref t ∧ (t, tripObj (.ref o) (.int q.2.1 tn) (.int q.2.2 tw)) ∈ n ∧ (o, listOf a c) ∈ n ∧ IntsAre a.toList q.1
def ScalesAt (n : List (Addr × Obj)) (D : Addr) : Prop := ∃ its k, (D, listOf its k) ∈ n ∧ Paired (ScaleAt n) its.toList scalesL
theorem kw32 : True := by
  k_with "ints" => first | exact IntsAre.nil | (refine IntsAre.cons _ _ ?_; walk_at "ints")
  k_with "kin" => first | exact List.Mem.head _ | (refine List.Mem.tail _ ?_; walk_at "kin")
  trivial
section
variable {w : World} {A A₀ : Around} {E : Value → Shared → Prop} {s : Shared} {h₀ base : Heap} {env : Env} {outer : List Env} {L x l d ln : Addr} {tl : Tok} {m mg mb : Str → Option Value} {news : List (Addr × Obj)}
   {p : Program} {loose : List Str} {mean : ExcName → Option Value} {Q : Value → Shared → Prop} {nm : Str} {tk : Tok} {its nits : Array Value} {n nn : Nat} {ps : List (Str × Value)}
theorem scales_spec (S : Sit w A A₀ base h₀ env outer L m p loose mean mg mb news s.heap 20)
   (h : ∀ D h' t' news', Fr h₀ L h' m → News h₀ L h' news' → (∀ q ∈ news, q ∈ news') → ScalesAt news' D → Q (.ref D) {s with heap := h', toks := t'}) :
   wpAny (model pg w) A (call (.ref 209) []) Q E s := by
  obtain ⟨KX, T, B', F, N, hA, hf, hke, hroom, hh⟩ := S
  refine wpAny_call ?_
  k_enter
  k_steps
  refine h _ _ _ _ (by assumption) (by assumption) (fun q hq => by iterate 25 (refine List.Mem.tail _ ?_)
                                                                   exact hq) ⟨_, _, List.Mem.head _, ?_⟩
  unfold scalesL
  iterate 12 (refine .cons ⟨_, _, _, _, _, _, rfl, by walk_at "kin", by walk_at "kin", by walk_at "ints"⟩ ?_)
  exact .nil
end
end
end
section
theorem kw34 : True := by
  w_top off
  k_with_none
  k_with "k_room" => first | ((try simp only [depth_under_make, depth_under_kw, depth_in1, depth_deeper, depth_caller]); omega) | decide
  k_with "code_def" => (refine' code_def ?k1w2 ?k2w2 ?k3w2 ?k4w2 ?k5w2 ?kAw2 ?kFw2 ?kKw2 ?k6w2 ?k7w2 ?k8w2 ?k9w2 ?kBw2 ?_ ?c2w2 ?c3w2 ?c4w2 ?c5w2; (case k1w2 => k_asm); (case k2w2 => k_asm); (case k3w2 => k_asm); (case k4w2 => k_asm); (case k5w2 => k_asm); (case kAw2 => assumption); (case kFw2 => assumption); (case kKw2 => assumption);  (case k6w2 => k_is); (case k7w2 => k_is); (case k8w2 => k_room); (case k9w2 => first | exact BindsTo.of_eq rfl | exact binds_K (by k_in) rfl (by k_is) rfl rfl rfl | fail "k_enter: no rule for these arguments"); (case c5w2 => decide); (case kBw2 => exact locs rfl); (case c2w2 => exact rfl); (case c3w2 => exact rfl); (case c4w2 => exact rfl))
  k_with "code_defC" => (refine' code_defC ?k1w3 ?k2w3 ?k3w3 ?k4w3 ?k5w3 ?kAw3 ?kFw3 ?kKw3 ?k6w3 ?k7w3 ?k8w3 ?k9w3 ?kBw3 ?kDw3 ?_ ?c2w3 ?c3w3 ?c4w3; (case k1w3 => k_asm); (case k2w3 => k_asm); (case k3w3 => k_asm); (case k4w3 => k_asm); (case k5w3 => k_asm); (case kAw3 => assumption); (case kFw3 => assumption); (case kKw3 => assumption); (case k6w3 => k_is); (case k7w3 => k_is); (case k8w3 => k_room); (case k9w3 => first | exact BindsTo.of_eq rfl | exact binds_K (by k_in) rfl (by k_is) rfl rfl rfl | fail "k_enter: no rule for these arguments"); (case kBw3 => exact rfl); (case kDw3 => decide +kernel); (case c2w3 => exact rfl); (case c3w3 => exact rfl); (case c4w3 => exact rfl))
  k_with "k_mem" => first | assumption | exact List.Mem.head _ | (refine' List.Mem.tail _ ?_; k_mem)
  k_with "k_all" => exact all_ne_of_lt (by assumption) (by first | exact Nat.le_refl _ | exact Nat.le_succ _ | omega)
  k_with "call builtin:str.lower" => (refine PyProof.Rows.SCL.lower (by omega) ?_; intro _)
  k_with "eval ListComp" => refine hold_intro ?_
  k_with "eval Slice none none none" => (refine slice_K (by assumption) (by assumption) ?_; intro _ _ _ _; (try k_sweep))
  k_with "setItem ref ref ref" => refine hold_intro ?_
  k_with "exec Assign cons ListComp" => ((with_reducible show wpAny _ _ (exec (Stmt.Assign [Expr.Subscript _ _ _] _ _) _) _ _ _); refine wpAny_Assign_Subscript ?_)
  k_with "call builtin:len" => (refine' len_L ?Nw11 ?hlw11 ?hsw11 ?_; (case Nw11 => k_asm); (case hlw11 => k_mem); (case hsw11 => omega); intro _ _)
  k_with "subscriptTail Name Slice ref ref" => ((with_reducible show wpAny _ _ (subscriptTail _ _ (Value.ref _) (Value.ref _)) _ _ _); refine' copy_L ?Fw12 ?Nw12 ?hlw12 ?hsw12 ?hzw12 ?_ ?hew12; (case Fw12 => k_asm); (case Nw12 => k_asm); (case hlw12 => k_mem); (case hsw12 => exact List.Mem.head _); (case hzw12 => rw [sizeLine_eq]; omega); (case hew12 => with_unfolding_all rfl); intro _ _ _ _ _; (try k_sweep))
  k_with "kp_more" => (refine' kp_more ?k1w13 ?k2w13 ?k3w13 ?k4w13 ?k5w13 ?kAw13 ?kFw13 ?kKw13 ?k6w13 ?k7w13 ?k8w13 ?kXw13 ?kMw13 ?kNw13 ?kDw13 ?kRw13 ?kPw13 ?kTw13 ?kBw13 ?_ ?c2w13 ?c3w13 ?c4w13 ?c5w13; (case kAw13 => assumption); (case kFw13 => assumption); (case kKw13 => assumption); (case k1w13 => k_asm); (case k2w13 => k_asm); (case k3w13 => k_asm); (case k4w13 => k_asm); (case k5w13 => k_asm); (case k6w13 => k_is); (case k7w13 => k_is); (case k8w13 => k_room); (case kXw13 => kp_lit); (case kMw13 => exact rfl); (case kNw13 => exact rfl); (case kDw13 => kp_flats); (case kRw13 => exact rfl); (case kPw13 => exact rfl); (case kTw13 => exact fun _ => rfl); (case kBw13 => exact fun _ => locs rfl); (case c5w13 => decide); (case c2w13 => exact rfl); (case c3w13 => exact rfl); (case c4w13 => exact rfl))
  k_with "exec For Tuple Name" => refine hold_intro ?_
  k_with "exec For Tuple Call" => refine hold_intro ?_
  k_with "exec For Tuple Call cons nil" => refine hold_intro ?_
  k_with "exec For Tuple Name cons nil" => refine hold_intro ?_
  k_with "call builtin:list.append" => (refine' append_L ?Fw18 ?Nw18 ?hlw18 ?_ ?hzw18; (case Fw18 => k_asm); (case Nw18 => k_asm); (case hlw18 => k_mem); (case hzw18 => (rw [sizeLine_eq]; omega)); intro _ _ _)
  k_with "mk_sit" => (refine' Sit.mk ?KXw19 ?Tw19 ?Bw19 ?Fw19 ?Nw19 ?hAw19 ?hfw19 ?hkew19 ?hroomw19 ?hhw19; (case KXw19 => k_asm); (case Tw19 => k_asm); (case Bw19 => k_asm); (case Fw19 => k_asm); (case Nw19 => k_asm); (case hAw19 => first | with_reducible assumption | exact Around.frames_deeper (Below.stack (by with_reducible assumption)) | rfl); (case hfw19 => first | with_reducible assumption | rfl); (case hkew19 => first | with_reducible assumption | rfl); (case hroomw19 => k_room); (case hhw19 => first | with_reducible assumption | exact handled_deeper (by with_reducible assumption) | assumption | rfl))
  k_with "call ref" => ((with_reducible show wpAny _ _ (call (Value.ref 83) [_, Value.str _ _] (List.zip _ [Value.bool true])) _ _ _); k_dflt (refine' conv_name ?Sw20 ?kaw20 ?kbw20 ?_; (case Sw20 => walk_at "mk_sit"); (case kaw20 => k_asm); (case kbw20 => k_asm); k_whole); intro _ _ _ _)
  k_with "call ref" => ((with_reducible show wpAny _ _ (call (Value.ref 83) [_, Value.str _ _] (List.zip _ [Value.bool false])) _ _ _); k_dflt (refine' conv_val ?Sw21 ?kaw21 ?kbw21 ?_; (case Sw21 => walk_at "mk_sit"); (case kaw21 => k_asm); (case kbw21 => k_asm); k_whole); intro _ _ _ _)
  trivial
def restTo (n : Int) (ls : List Int) : Nat → Int
  | 0 => 0
  | j + 1 => restTo n ls j + (if Builtin.bitAnd (1 + (j : Int)) n = 1 + (j : Int) then (if (1 + (j : Int)) ∈ ([1, 2, 4, 7] : List Int) then ls.getD (1 + (j : Int)).toNat 0 else -ls.getD (1 + (j : Int)).toNat 0) else 0)
def leftOf (q : List Int × Int × Int) (ls : List Int) : List Int := if q.2.2 ≤ restTo q.2.1 ls 7 then (List.range 8).map (fun i => if ((i : Nat) : Int) ∈ q.1 then ls.getD i 0 - 1 else ls.getD i 0) else ls
def stepR (st : List Bool × List Int) (q : List Int × Int × Int) : List Bool × List Int := (st.1 ++ [decide (q.2.2 ≤ restTo q.2.1 st.2 7)], leftOf q st.2)
def stR (ls : List Int) (i : Nat) : List Bool × List Int := (scalesL.reverse.take i).foldl stepR ([], ls)
theorem leftOf_len {q : List Int × Int × Int} {ls : List Int} (h : ls.length = 8) : (leftOf q ls).length = 8 := by
  unfold leftOf
  split
  · simp
  · exact h
theorem stR_len {ls : List Int} (h : ls.length = 8) : ∀ i, (stR ls i).2.length = 8 := by
  intro i
  unfold stR
  generalize scalesL.reverse.take i = qs
  suffices ∀ (st : List Bool × List Int), st.2.length = 8 → (qs.foldl stepR st).2.length = 8 from this _ h
  induction qs with
  | nil => exact fun _ h => h
  | cons q r ih => exact fun st h => ih _ (leftOf_len h)
theorem stR_tell {ls : List Int} : ∀ i, i ≤ 12 → (stR ls i).1.length = i := by
  intro i hi
  unfold stR
  have e : (scalesL.reverse.take i).length = i := by rw [List.length_take, List.length_reverse]; show min i 12 = i; omega
  revert e
  generalize scalesL.reverse.take i = qs
  intro e
  suffices ∀ (st : List Bool × List Int), (qs.foldl stepR st).1.length = st.1.length + qs.length from by rw [this, e]; exact Nat.zero_add i
  clear e hi
  induction qs with
  | nil => exact fun _ => rfl
  | cons q r ih => intro st; rw [List.foldl_cons, ih, List.length_cons]; show (st.1 ++ [_]).length + _ = _; rw [List.length_append, List.length_singleton]; omega
theorem stR_succ {ls : List Int} {i : Nat} {q : List Int × Int × Int} (h : scalesL.reverse[i]? = some q) : stR ls (i + 1) = stepR (stR ls i) q := by
  unfold stR
  rw [List.take_add_one, h, List.foldl_append]
  rfl
theorem paired_rev {α β : Type} {F : α → β → Prop} : ∀ {a : List α} {b : List β}, Paired F a b → Paired F a.reverse b.reverse
  | _, _, .nil => .nil
  | _, _, .cons h t => by
    rw [List.reverse_cons, List.reverse_cons]
    exact Paired.snoc (paired_rev t) h
theorem ScaleAt.ref {n : List (Addr × Obj)} {v : Value} {q : List Int × Int × Int} (h : ScaleAt n v q) : ∃ t, v = .ref t := let ⟨t, _, _, _, _, _, e, _⟩ := h; ⟨t, e⟩
theorem paired_len {α β : Type} {F : α → β → Prop} {a : List α} {b : List β} (h : Paired F a b) : a.length = b.length := by
  induction h with
  | nil => rfl
  | cons _ _ ih => rw [List.length_cons, List.length_cons, ih]
theorem paired_at {α β : Type} {F : α → β → Prop} {a : List α} {b : List β} (h : Paired F a b) : ∀ (i : Nat) v, a[i]? = some v → ∃ q, b[i]? = some q ∧ F v q := by
  induction h with
  | nil => intro i v e; simp at e
  | cons h _ ih =>
    intro i v e
    cases i with
    | zero => cases e; exact ⟨_, rfl, h⟩
    | succ j => exact ih j v e
theorem refs_of {n : List (Addr × Obj)} : ∀ {vs : List Value} {qs : List (List Int × Int × Int)}, Paired (ScaleAt n) vs qs → ∃ ts : List Addr, vs = ts.map .ref
  | _, _, .nil => ⟨[], rfl⟩
  | _, _, .cons h t => by
    obtain ⟨a, rfl⟩ := h.ref
    obtain ⟨ts, rfl⟩ := refs_of t
    exact ⟨a :: ts, rfl⟩
theorem ScalesAt.explicit {n : List (Addr × Obj)} {D : Addr} (h : ScalesAt n D) : ∃ t0 t1 t2 t3 t4 t5 t6 t7 t8 t9 t10 t11 k, (D, listOf #[.ref t0, .ref t1, .ref t2, .ref t3, .ref t4, .ref t5, .ref t6, .ref t7, .ref t8, .ref t9, .ref t10, .ref t11] k) ∈ n ∧ Paired (ScaleAt n) [.ref t11, .ref t10, .ref t9, .ref t8, .ref t7, .ref t6, .ref t5, .ref t4, .ref t3, .ref t2, .ref t1, .ref t0] scalesL.reverse := by
  obtain ⟨its, k, hm, P⟩ := h
  have P' := paired_rev P
  obtain ⟨ts, e⟩ := refs_of P
  have hl := paired_len P
  rw [e, List.length_map] at hl
  match ts, hl with
  | [t0, t1, t2, t3, t4, t5, t6, t7, t8, t9, t10, t11], _ =>
    refine ⟨t0, t1, t2, t3, t4, t5, t6, t7, t8, t9, t10, t11, k, ?_, ?_⟩
    · rw [show its = #[.ref t0, .ref t1, .ref t2, .ref t3, .ref t4, .ref t5, .ref t6, .ref t7, .ref t8, .ref t9, .ref t10, .ref t11] from by rw [← Array.toArray_toList (xs := its), e]; rfl] at hm
      exact hm
    · rw [e] at P'
      exact P'
/-- the word of _law_read's loop -/
def JR (cl co told : Addr) (M : Str → Option Value) (ks : List (Addr × Obj)) (ls : List Int) : Nat → (Str → Option Value) → List (Addr × Obj) → Prop := fun i m' n' =>
  Agree [Str.ofString "number", Str.ofString "weight", Str.ofString "rest", Str.ofString "x"] M m' ∧ (∀ p ∈ ks, p ∈ n') ∧
  (∃ oL D a k, (cl, oL) ∈ n' ∧ oL.data = .cell (some (.ref D)) ∧ (D, listOf a k) ∈ n' ∧ IntsAre a.toList (stR ls i).2 ∧ D ≠ told) ∧
  (∃ oO v, (co, oO) ∈ n' ∧ oO.data = .cell v) ∧ ∃ k, (told, listOf ((stR ls i).1.map Value.bool).toArray k) ∈ n'
theorem JR.mono {cl co told : Addr} {M : Str → Option Value} {ks n₀ : List (Addr × Obj)} {ls : List Int} (hks : ∀ p ∈ ks, p ∈ n₀) (hcl : ∃ o, (cl, o) ∈ n₀) (hco : ∃ o, (co, o) ∈ n₀) (i : Nat) (m : Str → Option Value) (n n' : List (Addr × Obj)) (I : Addr) (h1 : ∀ p ∈ n₀, p.1 ≠ I) (h2 : ∀ p ∈ n, isIter p.2 = false → p.1 ≠ I) (h3 : JR cl co told M ks ls i m n) (h4 : ∀ p ∈ n, p.1 ≠ I → p ∈ n') : JR cl co told M ks ls i m n' := by
  obtain ⟨hA, hK, ⟨oL, D, a, k, a1, a2, a3, a4, a5⟩, ⟨oO, v, b1, b2⟩, c, c1⟩ := h3
  obtain ⟨o1, e1⟩ := hcl
  obtain ⟨o2, e2⟩ := hco
  exact ⟨hA, fun p hp => h4 p (hK p hp) (h1 p (hks p hp)), ⟨oL, D, a, k, h4 _ a1 (h1 (cl, o1) e1), a2, h4 _ a3 (h2 _ a3 isIter_list), a4, a5⟩, ⟨oO, v, h4 _ b1 (h1 (co, o2) e2), b2⟩, c, h4 _ c1 (h2 _ c1 isIter_list)⟩
/-- the word of its inner loop -/
def JX (num : Int) (ls : List Int) (M : Str → Option Value) (n₀ : List (Addr × Obj)) : Nat → (Str → Option Value) → List (Addr × Obj) → Prop := fun j m' n' =>
  Agree [Str.ofString "rest", Str.ofString "x"] M m' ∧ (∃ t, m' (Str.ofString "rest") = some (.int (restTo num ls j) t)) ∧ ∀ p ∈ n₀, p ∈ n'
theorem JX.mono {num : Int} {ls : List Int} {M : Str → Option Value} {n₀ : List (Addr × Obj)} (i : Nat) (m : Str → Option Value) (n n' : List (Addr × Obj)) (I : Addr) (h1 : ∀ p ∈ n₀, p.1 ≠ I) (_h2 : ∀ p ∈ n, isIter p.2 = false → p.1 ≠ I) (h3 : JX num ls M n₀ i m n) (h4 : ∀ p ∈ n, p.1 ≠ I → p ∈ n') : JX num ls M n₀ i m n' :=
  ⟨h3.1, h3.2.1, fun p hp => h4 p (h3.2.2 p hp) (h1 p hp)⟩
/-- the ledger but for three addresses -/
def offs (a b c : Addr) (n : List (Addr × Obj)) : List (Addr × Obj) := n.filter fun p => decide (p.1 ≠ a) && decide (p.1 ≠ b) && decide (p.1 ≠ c)
theorem offs_mem {a b c : Addr} {n : List (Addr × Obj)} {p : Addr × Obj} : p ∈ offs a b c n ↔ p ∈ n ∧ p.1 ≠ a ∧ p.1 ≠ b ∧ p.1 ≠ c := by
  unfold offs
  rw [List.mem_filter]
  simp only [Bool.and_eq_true, decide_eq_true_eq, and_assoc]
theorem scaleAt_offs {h₀ h : Heap} {L a b c : Addr} {oa ob : Obj} {va vb : Option Value} {k : Nat} {n : List (Addr × Obj)} {v : Value} {q : List Int × Int × Int} (N : News h₀ L h n) (ha : (a, oa) ∈ n) (da : oa.data = .cell va) (hb : (b, ob) ∈ n) (db : ob.data = .cell vb) (hc : (c, listOf #[] k) ∈ n) (hq : q.1.length ≠ 0) (S : ScaleAt n v q) : ScaleAt (offs a b c n) v q := by
  obtain ⟨t, o, x, y, tn, tw, e, h1, h2, h3⟩ := S
  refine ⟨t, o, x, y, tn, tw, e, offs_mem.mpr ⟨h1, cell_ne N h1 ha da fun v e => (by cases e), cell_ne N h1 hb db fun v e => (by cases e), news_ne N h1 hc (by show Value.type "tuple" ≠ Value.type "list"; decide)⟩, offs_mem.mpr ⟨h2, cell_ne N h2 ha da fun v e => (by cases e), cell_ne N h2 hb db fun v e => (by cases e), list_ne N h2 hc fun e => hq ?_⟩, h3⟩
  rw [← IntsAre.length h3, Array.length_toList, e]
  rfl
theorem scales_some : ∀ q ∈ scalesL.reverse, q.1.length ≠ 0 := by decide
theorem rest_in {num : Int} {ls : List Int} {j : Nat} (h : Builtin.bitAnd (1 + (j : Int)) num = 1 + (j : Int)) (hb : decide ((1 + (j : Int)) ∈ ([1, 2, 4, 7] : List Int)) = true) : restTo num ls j + ls.getD (1 + (j : Int)).toNat 0 = restTo num ls (j + 1) := by
  show _ = restTo num ls j + _
  rw [if_pos h, if_pos (of_decide_eq_true hb)]
theorem rest_out {num : Int} {ls : List Int} {j : Nat} (h : Builtin.bitAnd (1 + (j : Int)) num = 1 + (j : Int)) (hb : decide ((1 + (j : Int)) ∈ ([1, 2, 4, 7] : List Int)) = false) : restTo num ls j + -ls.getD (1 + (j : Int)).toNat 0 = restTo num ls (j + 1) := by
  show _ = restTo num ls j + _
  rw [if_pos h, if_neg (of_decide_eq_false hb)]
theorem rest_no {num : Int} {ls : List Int} {j : Nat} (h : Builtin.bitAnd (1 + (j : Int)) num ≠ 1 + (j : Int)) : restTo num ls j = restTo num ls (j + 1) := by
  show _ = restTo num ls j + _
  rw [if_neg h, Int.add_zero]
theorem stR_told {ls : List Int} {i : Nat} {os : List Int} {num wt : Int} (hq : scalesL.reverse[i]? = some (os, num, wt)) : ((stR ls (i + 1)).1.map Value.bool).toArray = ((stR ls i).1.map Value.bool).toArray.push (.bool (decide (wt ≤ restTo num (stR ls i).2 7))) := by
  rw [stR_succ hq]
  show (((stR ls i).1 ++ [_]).map Value.bool).toArray = _
  rw [List.map_append, List.push_toArray]
  rfl
theorem stR_yes {ls : List Int} {i : Nat} {os : List Int} {num wt : Int} (hq : scalesL.reverse[i]? = some (os, num, wt)) (h : wt ≤ restTo num (stR ls i).2 7) : (stR ls (i + 1)).2 = (List.range 8).map fun (x : Nat) => if ((x : Nat) : Int) ∈ os then (stR ls i).2.getD x 0 - 1 else (stR ls i).2.getD x 0 := by
  rw [stR_succ hq]
  show leftOf (os, num, wt) (stR ls i).2 = _
  unfold leftOf
  rw [if_pos h]
theorem stR_no {ls : List Int} {i : Nat} {os : List Int} {num wt : Int} (hq : scalesL.reverse[i]? = some (os, num, wt)) (h : ¬ wt ≤ restTo num (stR ls i).2 7) : (stR ls (i + 1)).2 = (stR ls i).2 := by
  rw [stR_succ hq]
  show leftOf (os, num, wt) (stR ls i).2 = _
  unfold leftOf
  rw [if_neg h]
end
section
local macro_rules | `(tactic| walk_at "pad") => `(tactic| fail)
theorem kw35 : True := by
  w_top off
  trivial
def onL (i : Nat) : List Int := (scalesL.getD i ([], 0, 0)).1
/-- the length of table x behind the first i deeds -/
def lenI (b : Nat → Int) : Nat → Nat → Int
  | 0, _ => 0
  | i + 1, x => lenI b i x + (if ((x : Nat) : Int) ∈ onL i then b i else 0)
def lensI (b : Nat → Int) (i : Nat) : List Int := (List.range 8).map fun x => lenI b i x
theorem rest_1 (l0 l1 l2 l3 l4 l5 l6 l7 : Int) : restTo 1 [l0, l1, l2, l3, l4, l5, l6, l7] 7 = ((((((((0 : Int) + l1) + 0) + 0) + 0) + 0) + 0) + 0) := by rfl
theorem rest_2 (l0 l1 l2 l3 l4 l5 l6 l7 : Int) : restTo 2 [l0, l1, l2, l3, l4, l5, l6, l7] 7 = ((((((((0 : Int) + 0) + l2) + 0) + 0) + 0) + 0) + 0) := by rfl
theorem rest_3 (l0 l1 l2 l3 l4 l5 l6 l7 : Int) : restTo 3 [l0, l1, l2, l3, l4, l5, l6, l7] 7 = ((((((((0 : Int) + l1) + l2) + -l3) + 0) + 0) + 0) + 0) := by rfl
theorem rest_4 (l0 l1 l2 l3 l4 l5 l6 l7 : Int) : restTo 4 [l0, l1, l2, l3, l4, l5, l6, l7] 7 = ((((((((0 : Int) + 0) + 0) + 0) + l4) + 0) + 0) + 0) := by rfl
theorem rest_5 (l0 l1 l2 l3 l4 l5 l6 l7 : Int) : restTo 5 [l0, l1, l2, l3, l4, l5, l6, l7] 7 = ((((((((0 : Int) + l1) + 0) + 0) + l4) + -l5) + 0) + 0) := by rfl
theorem rest_6 (l0 l1 l2 l3 l4 l5 l6 l7 : Int) : restTo 6 [l0, l1, l2, l3, l4, l5, l6, l7] 7 = ((((((((0 : Int) + 0) + l2) + 0) + l4) + 0) + -l6) + 0) := by rfl
theorem rest_7 (l0 l1 l2 l3 l4 l5 l6 l7 : Int) : restTo 7 [l0, l1, l2, l3, l4, l5, l6, l7] 7 = ((((((((0 : Int) + l1) + l2) + -l3) + l4) + -l5) + -l6) + l7) := by rfl
theorem lens_0 (b : Nat → Int) : lensI b 0 = [0, 0, 0, 0, 0, 0, 0, 0] := by rfl
theorem lens_1 (b : Nat → Int) : lensI b 1 = [(0 + b 0), (0 + b 0), (0 + 0), (0 + b 0), (0 + 0), (0 + b 0), (0 + 0), (0 + b 0)] := by rfl
theorem step_0 (b : Nat → Int) (h0 : b 0 = 0 ∨ b 0 = 1) (t : List Bool) : stepR (t, lensI b 1) ([0, 1, 3, 5, 7], 1, 1) = (t ++ [decide (b 0 = 1)], lensI b 0) := by
  have e := rest_1 ((0 + b 0)) ((0 + b 0)) ((0 + 0)) ((0 + b 0)) ((0 + 0)) ((0 + b 0)) ((0 + 0)) ((0 + b 0))
  rw [← lens_1 b] at e
  unfold stepR leftOf
  dsimp only
  rw [e]
  clear e
  rcases h0 with h | h
  · rw [if_neg (by omega), decide_eq_false (by omega), decide_eq_false (by omega), lens_1, lens_0, h]
    simp only [Int.add_zero]
  · rw [if_pos (by omega), decide_eq_true (by omega), decide_eq_true h, lens_1, lens_0, h]
    refine congrArg _ ?_
    show [(0 + 1) - 1, (0 + 1) - 1, (0 + 0), (0 + 1) - 1, (0 + 0), (0 + 1) - 1, (0 + 0), (0 + 1) - 1] = _
    simp only [Int.add_zero, Int.add_sub_cancel]
theorem lens_2 (b : Nat → Int) : lensI b 2 = [((0 + b 0) + b 1), ((0 + b 0) + 0), ((0 + 0) + b 1), ((0 + b 0) + b 1), ((0 + 0) + 0), ((0 + b 0) + 0), ((0 + 0) + b 1), ((0 + b 0) + b 1)] := by rfl
theorem step_1 (b : Nat → Int) (h0 : b 0 = 0 ∨ b 0 = 1) (h1 : b 1 = 0 ∨ b 1 = 1) (t : List Bool) : stepR (t, lensI b 2) ([0, 2, 3, 6, 7], 2, 1) = (t ++ [decide (b 1 = 1)], lensI b 1) := by
  have e := rest_2 (((0 + b 0) + b 1)) (((0 + b 0) + 0)) (((0 + 0) + b 1)) (((0 + b 0) + b 1)) (((0 + 0) + 0)) (((0 + b 0) + 0)) (((0 + 0) + b 1)) (((0 + b 0) + b 1))
  rw [← lens_2 b] at e
  unfold stepR leftOf
  dsimp only
  rw [e]
  clear e
  rcases h1 with h | h
  · rw [if_neg (by omega), decide_eq_false (by omega), decide_eq_false (by omega), lens_2, lens_1, h]
    simp only [Int.add_zero]
  · rw [if_pos (by omega), decide_eq_true (by omega), decide_eq_true h, lens_2, lens_1, h]
    refine congrArg _ ?_
    show [((0 + b 0) + 1) - 1, ((0 + b 0) + 0), ((0 + 0) + 1) - 1, ((0 + b 0) + 1) - 1, ((0 + 0) + 0), ((0 + b 0) + 0), ((0 + 0) + 1) - 1, ((0 + b 0) + 1) - 1] = _
    simp only [Int.add_zero, Int.add_sub_cancel]
theorem lens_3 (b : Nat → Int) : lensI b 3 = [(((0 + b 0) + b 1) + b 2), (((0 + b 0) + 0) + b 2), (((0 + 0) + b 1) + 0), (((0 + b 0) + b 1) + 0), (((0 + 0) + 0) + 0), (((0 + b 0) + 0) + b 2), (((0 + 0) + b 1) + 0), (((0 + b 0) + b 1) + 0)] := by rfl
theorem step_2 (b : Nat → Int) (h0 : b 0 = 0 ∨ b 0 = 1) (h1 : b 1 = 0 ∨ b 1 = 1) (h2 : b 2 = 0 ∨ b 2 = 1) (t : List Bool) : stepR (t, lensI b 3) ([0, 1, 5], 3, 1) = (t ++ [decide (b 2 = 1)], lensI b 2) := by
  have e := rest_3 ((((0 + b 0) + b 1) + b 2)) ((((0 + b 0) + 0) + b 2)) ((((0 + 0) + b 1) + 0)) ((((0 + b 0) + b 1) + 0)) ((((0 + 0) + 0) + 0)) ((((0 + b 0) + 0) + b 2)) ((((0 + 0) + b 1) + 0)) ((((0 + b 0) + b 1) + 0))
  rw [← lens_3 b] at e
  unfold stepR leftOf
  dsimp only
  rw [e]
  clear e
  rcases h2 with h | h
  · rw [if_neg (by omega), decide_eq_false (by omega), decide_eq_false (by omega), lens_3, lens_2, h]
    simp only [Int.add_zero]
  · rw [if_pos (by omega), decide_eq_true (by omega), decide_eq_true h, lens_3, lens_2, h]
    refine congrArg _ ?_
    show [(((0 + b 0) + b 1) + 1) - 1, (((0 + b 0) + 0) + 1) - 1, (((0 + 0) + b 1) + 0), (((0 + b 0) + b 1) + 0), (((0 + 0) + 0) + 0), (((0 + b 0) + 0) + 1) - 1, (((0 + 0) + b 1) + 0), (((0 + b 0) + b 1) + 0)] = _
    simp only [Int.add_zero, Int.add_sub_cancel]
theorem lens_4 (b : Nat → Int) : lensI b 4 = [((((0 + b 0) + b 1) + b 2) + b 3), ((((0 + b 0) + 0) + b 2) + b 3), ((((0 + 0) + b 1) + 0) + b 3), ((((0 + b 0) + b 1) + 0) + 0), ((((0 + 0) + 0) + 0) + 0), ((((0 + b 0) + 0) + b 2) + b 3), ((((0 + 0) + b 1) + 0) + b 3), ((((0 + b 0) + b 1) + 0) + 0)] := by rfl
theorem step_3 (b : Nat → Int) (h0 : b 0 = 0 ∨ b 0 = 1) (h1 : b 1 = 0 ∨ b 1 = 1) (h2 : b 2 = 0 ∨ b 2 = 1) (h3 : b 3 = 0 ∨ b 3 = 1) (t : List Bool) : stepR (t, lensI b 4) ([0, 1, 2, 5, 6], 3, 2) = (t ++ [decide (b 3 = 1)], lensI b 3) := by
  have e := rest_3 (((((0 + b 0) + b 1) + b 2) + b 3)) (((((0 + b 0) + 0) + b 2) + b 3)) (((((0 + 0) + b 1) + 0) + b 3)) (((((0 + b 0) + b 1) + 0) + 0)) (((((0 + 0) + 0) + 0) + 0)) (((((0 + b 0) + 0) + b 2) + b 3)) (((((0 + 0) + b 1) + 0) + b 3)) (((((0 + b 0) + b 1) + 0) + 0))
  rw [← lens_4 b] at e
  unfold stepR leftOf
  dsimp only
  rw [e]
  clear e
  rcases h3 with h | h
  · rw [if_neg (by omega), decide_eq_false (by omega), decide_eq_false (by omega), lens_4, lens_3, h]
    simp only [Int.add_zero]
  · rw [if_pos (by omega), decide_eq_true (by omega), decide_eq_true h, lens_4, lens_3, h]
    refine congrArg _ ?_
    show [((((0 + b 0) + b 1) + b 2) + 1) - 1, ((((0 + b 0) + 0) + b 2) + 1) - 1, ((((0 + 0) + b 1) + 0) + 1) - 1, ((((0 + b 0) + b 1) + 0) + 0), ((((0 + 0) + 0) + 0) + 0), ((((0 + b 0) + 0) + b 2) + 1) - 1, ((((0 + 0) + b 1) + 0) + 1) - 1, ((((0 + b 0) + b 1) + 0) + 0)] = _
    simp only [Int.add_zero, Int.add_sub_cancel]
theorem lens_5 (b : Nat → Int) : lensI b 5 = [(((((0 + b 0) + b 1) + b 2) + b 3) + b 4), (((((0 + b 0) + 0) + b 2) + b 3) + 0), (((((0 + 0) + b 1) + 0) + b 3) + 0), (((((0 + b 0) + b 1) + 0) + 0) + 0), (((((0 + 0) + 0) + 0) + 0) + b 4), (((((0 + b 0) + 0) + b 2) + b 3) + b 4), (((((0 + 0) + b 1) + 0) + b 3) + b 4), (((((0 + b 0) + b 1) + 0) + 0) + b 4)] := by rfl
theorem step_4 (b : Nat → Int) (h0 : b 0 = 0 ∨ b 0 = 1) (h1 : b 1 = 0 ∨ b 1 = 1) (h2 : b 2 = 0 ∨ b 2 = 1) (h3 : b 3 = 0 ∨ b 3 = 1) (h4 : b 4 = 0 ∨ b 4 = 1) (t : List Bool) : stepR (t, lensI b 5) ([0, 4, 5, 6, 7], 4, 1) = (t ++ [decide (b 4 = 1)], lensI b 4) := by
  have e := rest_4 ((((((0 + b 0) + b 1) + b 2) + b 3) + b 4)) ((((((0 + b 0) + 0) + b 2) + b 3) + 0)) ((((((0 + 0) + b 1) + 0) + b 3) + 0)) ((((((0 + b 0) + b 1) + 0) + 0) + 0)) ((((((0 + 0) + 0) + 0) + 0) + b 4)) ((((((0 + b 0) + 0) + b 2) + b 3) + b 4)) ((((((0 + 0) + b 1) + 0) + b 3) + b 4)) ((((((0 + b 0) + b 1) + 0) + 0) + b 4))
  rw [← lens_5 b] at e
  unfold stepR leftOf
  dsimp only
  rw [e]
  clear e
  rcases h4 with h | h
  · rw [if_neg (by omega), decide_eq_false (by omega), decide_eq_false (by omega), lens_5, lens_4, h]
    simp only [Int.add_zero]
  · rw [if_pos (by omega), decide_eq_true (by omega), decide_eq_true h, lens_5, lens_4, h]
    refine congrArg _ ?_
    show [(((((0 + b 0) + b 1) + b 2) + b 3) + 1) - 1, (((((0 + b 0) + 0) + b 2) + b 3) + 0), (((((0 + 0) + b 1) + 0) + b 3) + 0), (((((0 + b 0) + b 1) + 0) + 0) + 0), (((((0 + 0) + 0) + 0) + 0) + 1) - 1, (((((0 + b 0) + 0) + b 2) + b 3) + 1) - 1, (((((0 + 0) + b 1) + 0) + b 3) + 1) - 1, (((((0 + b 0) + b 1) + 0) + 0) + 1) - 1] = _
    simp only [Int.add_zero, Int.add_sub_cancel]
theorem lens_6 (b : Nat → Int) : lensI b 6 = [((((((0 + b 0) + b 1) + b 2) + b 3) + b 4) + b 5), ((((((0 + b 0) + 0) + b 2) + b 3) + 0) + b 5), ((((((0 + 0) + b 1) + 0) + b 3) + 0) + 0), ((((((0 + b 0) + b 1) + 0) + 0) + 0) + b 5), ((((((0 + 0) + 0) + 0) + 0) + b 4) + 0), ((((((0 + b 0) + 0) + b 2) + b 3) + b 4) + 0), ((((((0 + 0) + b 1) + 0) + b 3) + b 4) + 0), ((((((0 + b 0) + b 1) + 0) + 0) + b 4) + 0)] := by rfl
theorem step_5 (b : Nat → Int) (h0 : b 0 = 0 ∨ b 0 = 1) (h1 : b 1 = 0 ∨ b 1 = 1) (h2 : b 2 = 0 ∨ b 2 = 1) (h3 : b 3 = 0 ∨ b 3 = 1) (h4 : b 4 = 0 ∨ b 4 = 1) (h5 : b 5 = 0 ∨ b 5 = 1) (t : List Bool) : stepR (t, lensI b 6) ([0, 1, 3], 5, 1) = (t ++ [decide (b 5 = 1)], lensI b 5) := by
  have e := rest_5 (((((((0 + b 0) + b 1) + b 2) + b 3) + b 4) + b 5)) (((((((0 + b 0) + 0) + b 2) + b 3) + 0) + b 5)) (((((((0 + 0) + b 1) + 0) + b 3) + 0) + 0)) (((((((0 + b 0) + b 1) + 0) + 0) + 0) + b 5)) (((((((0 + 0) + 0) + 0) + 0) + b 4) + 0)) (((((((0 + b 0) + 0) + b 2) + b 3) + b 4) + 0)) (((((((0 + 0) + b 1) + 0) + b 3) + b 4) + 0)) (((((((0 + b 0) + b 1) + 0) + 0) + b 4) + 0))
  rw [← lens_6 b] at e
  unfold stepR leftOf
  dsimp only
  rw [e]
  clear e
  rcases h5 with h | h
  · rw [if_neg (by omega), decide_eq_false (by omega), decide_eq_false (by omega), lens_6, lens_5, h]
    simp only [Int.add_zero]
  · rw [if_pos (by omega), decide_eq_true (by omega), decide_eq_true h, lens_6, lens_5, h]
    refine congrArg _ ?_
    show [((((((0 + b 0) + b 1) + b 2) + b 3) + b 4) + 1) - 1, ((((((0 + b 0) + 0) + b 2) + b 3) + 0) + 1) - 1, ((((((0 + 0) + b 1) + 0) + b 3) + 0) + 0), ((((((0 + b 0) + b 1) + 0) + 0) + 0) + 1) - 1, ((((((0 + 0) + 0) + 0) + 0) + b 4) + 0), ((((((0 + b 0) + 0) + b 2) + b 3) + b 4) + 0), ((((((0 + 0) + b 1) + 0) + b 3) + b 4) + 0), ((((((0 + b 0) + b 1) + 0) + 0) + b 4) + 0)] = _
    simp only [Int.add_zero, Int.add_sub_cancel]
theorem lens_7 (b : Nat → Int) : lensI b 7 = [(((((((0 + b 0) + b 1) + b 2) + b 3) + b 4) + b 5) + b 6), (((((((0 + b 0) + 0) + b 2) + b 3) + 0) + b 5) + b 6), (((((((0 + 0) + b 1) + 0) + b 3) + 0) + 0) + 0), (((((((0 + b 0) + b 1) + 0) + 0) + 0) + b 5) + b 6), (((((((0 + 0) + 0) + 0) + 0) + b 4) + 0) + b 6), (((((((0 + b 0) + 0) + b 2) + b 3) + b 4) + 0) + 0), (((((((0 + 0) + b 1) + 0) + b 3) + b 4) + 0) + b 6), (((((((0 + b 0) + b 1) + 0) + 0) + b 4) + 0) + 0)] := by rfl
theorem step_6 (b : Nat → Int) (h0 : b 0 = 0 ∨ b 0 = 1) (h1 : b 1 = 0 ∨ b 1 = 1) (h2 : b 2 = 0 ∨ b 2 = 1) (h3 : b 3 = 0 ∨ b 3 = 1) (h4 : b 4 = 0 ∨ b 4 = 1) (h5 : b 5 = 0 ∨ b 5 = 1) (h6 : b 6 = 0 ∨ b 6 = 1) (t : List Bool) : stepR (t, lensI b 7) ([0, 1, 3, 4, 6], 5, 2) = (t ++ [decide (b 6 = 1)], lensI b 6) := by
  have e := rest_5 ((((((((0 + b 0) + b 1) + b 2) + b 3) + b 4) + b 5) + b 6)) ((((((((0 + b 0) + 0) + b 2) + b 3) + 0) + b 5) + b 6)) ((((((((0 + 0) + b 1) + 0) + b 3) + 0) + 0) + 0)) ((((((((0 + b 0) + b 1) + 0) + 0) + 0) + b 5) + b 6)) ((((((((0 + 0) + 0) + 0) + 0) + b 4) + 0) + b 6)) ((((((((0 + b 0) + 0) + b 2) + b 3) + b 4) + 0) + 0)) ((((((((0 + 0) + b 1) + 0) + b 3) + b 4) + 0) + b 6)) ((((((((0 + b 0) + b 1) + 0) + 0) + b 4) + 0) + 0))
  rw [← lens_7 b] at e
  unfold stepR leftOf
  dsimp only
  rw [e]
  clear e
  rcases h6 with h | h
  · rw [if_neg (by omega), decide_eq_false (by omega), decide_eq_false (by omega), lens_7, lens_6, h]
    simp only [Int.add_zero]
  · rw [if_pos (by omega), decide_eq_true (by omega), decide_eq_true h, lens_7, lens_6, h]
    refine congrArg _ ?_
    show [(((((((0 + b 0) + b 1) + b 2) + b 3) + b 4) + b 5) + 1) - 1, (((((((0 + b 0) + 0) + b 2) + b 3) + 0) + b 5) + 1) - 1, (((((((0 + 0) + b 1) + 0) + b 3) + 0) + 0) + 0), (((((((0 + b 0) + b 1) + 0) + 0) + 0) + b 5) + 1) - 1, (((((((0 + 0) + 0) + 0) + 0) + b 4) + 0) + 1) - 1, (((((((0 + b 0) + 0) + b 2) + b 3) + b 4) + 0) + 0), (((((((0 + 0) + b 1) + 0) + b 3) + b 4) + 0) + 1) - 1, (((((((0 + b 0) + b 1) + 0) + 0) + b 4) + 0) + 0)] = _
    simp only [Int.add_zero, Int.add_sub_cancel]
theorem lens_8 (b : Nat → Int) : lensI b 8 = [((((((((0 + b 0) + b 1) + b 2) + b 3) + b 4) + b 5) + b 6) + b 7), ((((((((0 + b 0) + 0) + b 2) + b 3) + 0) + b 5) + b 6) + 0), ((((((((0 + 0) + b 1) + 0) + b 3) + 0) + 0) + 0) + b 7), ((((((((0 + b 0) + b 1) + 0) + 0) + 0) + b 5) + b 6) + b 7), ((((((((0 + 0) + 0) + 0) + 0) + b 4) + 0) + b 6) + 0), ((((((((0 + b 0) + 0) + b 2) + b 3) + b 4) + 0) + 0) + 0), ((((((((0 + 0) + b 1) + 0) + b 3) + b 4) + 0) + b 6) + 0), ((((((((0 + b 0) + b 1) + 0) + 0) + b 4) + 0) + 0) + 0)] := by rfl
theorem step_7 (b : Nat → Int) (h0 : b 0 = 0 ∨ b 0 = 1) (h1 : b 1 = 0 ∨ b 1 = 1) (h2 : b 2 = 0 ∨ b 2 = 1) (h3 : b 3 = 0 ∨ b 3 = 1) (h4 : b 4 = 0 ∨ b 4 = 1) (h5 : b 5 = 0 ∨ b 5 = 1) (h6 : b 6 = 0 ∨ b 6 = 1) (h7 : b 7 = 0 ∨ b 7 = 1) (t : List Bool) : stepR (t, lensI b 8) ([0, 2, 3], 6, 1) = (t ++ [decide (b 7 = 1)], lensI b 7) := by
  have e := rest_6 (((((((((0 + b 0) + b 1) + b 2) + b 3) + b 4) + b 5) + b 6) + b 7)) (((((((((0 + b 0) + 0) + b 2) + b 3) + 0) + b 5) + b 6) + 0)) (((((((((0 + 0) + b 1) + 0) + b 3) + 0) + 0) + 0) + b 7)) (((((((((0 + b 0) + b 1) + 0) + 0) + 0) + b 5) + b 6) + b 7)) (((((((((0 + 0) + 0) + 0) + 0) + b 4) + 0) + b 6) + 0)) (((((((((0 + b 0) + 0) + b 2) + b 3) + b 4) + 0) + 0) + 0)) (((((((((0 + 0) + b 1) + 0) + b 3) + b 4) + 0) + b 6) + 0)) (((((((((0 + b 0) + b 1) + 0) + 0) + b 4) + 0) + 0) + 0))
  rw [← lens_8 b] at e
  unfold stepR leftOf
  dsimp only
  rw [e]
  clear e
  rcases h7 with h | h
  · rw [if_neg (by omega), decide_eq_false (by omega), decide_eq_false (by omega), lens_8, lens_7, h]
    simp only [Int.add_zero]
  · rw [if_pos (by omega), decide_eq_true (by omega), decide_eq_true h, lens_8, lens_7, h]
    refine congrArg _ ?_
    show [((((((((0 + b 0) + b 1) + b 2) + b 3) + b 4) + b 5) + b 6) + 1) - 1, ((((((((0 + b 0) + 0) + b 2) + b 3) + 0) + b 5) + b 6) + 0), ((((((((0 + 0) + b 1) + 0) + b 3) + 0) + 0) + 0) + 1) - 1, ((((((((0 + b 0) + b 1) + 0) + 0) + 0) + b 5) + b 6) + 1) - 1, ((((((((0 + 0) + 0) + 0) + 0) + b 4) + 0) + b 6) + 0), ((((((((0 + b 0) + 0) + b 2) + b 3) + b 4) + 0) + 0) + 0), ((((((((0 + 0) + b 1) + 0) + b 3) + b 4) + 0) + b 6) + 0), ((((((((0 + b 0) + b 1) + 0) + 0) + b 4) + 0) + 0) + 0)] = _
    simp only [Int.add_zero, Int.add_sub_cancel]
theorem lens_9 (b : Nat → Int) : lensI b 9 = [(((((((((0 + b 0) + b 1) + b 2) + b 3) + b 4) + b 5) + b 6) + b 7) + b 8), (((((((((0 + b 0) + 0) + b 2) + b 3) + 0) + b 5) + b 6) + 0) + 0), (((((((((0 + 0) + b 1) + 0) + b 3) + 0) + 0) + 0) + b 7) + b 8), (((((((((0 + b 0) + b 1) + 0) + 0) + 0) + b 5) + b 6) + b 7) + b 8), (((((((((0 + 0) + 0) + 0) + 0) + b 4) + 0) + b 6) + 0) + b 8), (((((((((0 + b 0) + 0) + b 2) + b 3) + b 4) + 0) + 0) + 0) + b 8), (((((((((0 + 0) + b 1) + 0) + b 3) + b 4) + 0) + b 6) + 0) + 0), (((((((((0 + b 0) + b 1) + 0) + 0) + b 4) + 0) + 0) + 0) + 0)] := by rfl
theorem step_8 (b : Nat → Int) (h0 : b 0 = 0 ∨ b 0 = 1) (h1 : b 1 = 0 ∨ b 1 = 1) (h2 : b 2 = 0 ∨ b 2 = 1) (h3 : b 3 = 0 ∨ b 3 = 1) (h4 : b 4 = 0 ∨ b 4 = 1) (h5 : b 5 = 0 ∨ b 5 = 1) (h6 : b 6 = 0 ∨ b 6 = 1) (h7 : b 7 = 0 ∨ b 7 = 1) (h8 : b 8 = 0 ∨ b 8 = 1) (t : List Bool) : stepR (t, lensI b 9) ([0, 2, 3, 4, 5], 6, 2) = (t ++ [decide (b 8 = 1)], lensI b 8) := by
  have e := rest_6 ((((((((((0 + b 0) + b 1) + b 2) + b 3) + b 4) + b 5) + b 6) + b 7) + b 8)) ((((((((((0 + b 0) + 0) + b 2) + b 3) + 0) + b 5) + b 6) + 0) + 0)) ((((((((((0 + 0) + b 1) + 0) + b 3) + 0) + 0) + 0) + b 7) + b 8)) ((((((((((0 + b 0) + b 1) + 0) + 0) + 0) + b 5) + b 6) + b 7) + b 8)) ((((((((((0 + 0) + 0) + 0) + 0) + b 4) + 0) + b 6) + 0) + b 8)) ((((((((((0 + b 0) + 0) + b 2) + b 3) + b 4) + 0) + 0) + 0) + b 8)) ((((((((((0 + 0) + b 1) + 0) + b 3) + b 4) + 0) + b 6) + 0) + 0)) ((((((((((0 + b 0) + b 1) + 0) + 0) + b 4) + 0) + 0) + 0) + 0))
  rw [← lens_9 b] at e
  unfold stepR leftOf
  dsimp only
  rw [e]
  clear e
  rcases h8 with h | h
  · rw [if_neg (by omega), decide_eq_false (by omega), decide_eq_false (by omega), lens_9, lens_8, h]
    simp only [Int.add_zero]
  · rw [if_pos (by omega), decide_eq_true (by omega), decide_eq_true h, lens_9, lens_8, h]
    refine congrArg _ ?_
    show [(((((((((0 + b 0) + b 1) + b 2) + b 3) + b 4) + b 5) + b 6) + b 7) + 1) - 1, (((((((((0 + b 0) + 0) + b 2) + b 3) + 0) + b 5) + b 6) + 0) + 0), (((((((((0 + 0) + b 1) + 0) + b 3) + 0) + 0) + 0) + b 7) + 1) - 1, (((((((((0 + b 0) + b 1) + 0) + 0) + 0) + b 5) + b 6) + b 7) + 1) - 1, (((((((((0 + 0) + 0) + 0) + 0) + b 4) + 0) + b 6) + 0) + 1) - 1, (((((((((0 + b 0) + 0) + b 2) + b 3) + b 4) + 0) + 0) + 0) + 1) - 1, (((((((((0 + 0) + b 1) + 0) + b 3) + b 4) + 0) + b 6) + 0) + 0), (((((((((0 + b 0) + b 1) + 0) + 0) + b 4) + 0) + 0) + 0) + 0)] = _
    simp only [Int.add_zero, Int.add_sub_cancel]
theorem lens_10 (b : Nat → Int) : lensI b 10 = [((((((((((0 + b 0) + b 1) + b 2) + b 3) + b 4) + b 5) + b 6) + b 7) + b 8) + b 9), ((((((((((0 + b 0) + 0) + b 2) + b 3) + 0) + b 5) + b 6) + 0) + 0) + b 9), ((((((((((0 + 0) + b 1) + 0) + b 3) + 0) + 0) + 0) + b 7) + b 8) + 0), ((((((((((0 + b 0) + b 1) + 0) + 0) + 0) + b 5) + b 6) + b 7) + b 8) + 0), ((((((((((0 + 0) + 0) + 0) + 0) + b 4) + 0) + b 6) + 0) + b 8) + 0), ((((((((((0 + b 0) + 0) + b 2) + b 3) + b 4) + 0) + 0) + 0) + b 8) + 0), ((((((((((0 + 0) + b 1) + 0) + b 3) + b 4) + 0) + b 6) + 0) + 0) + 0), ((((((((((0 + b 0) + b 1) + 0) + 0) + b 4) + 0) + 0) + 0) + 0) + 0)] := by rfl
theorem step_9 (b : Nat → Int) (h0 : b 0 = 0 ∨ b 0 = 1) (h1 : b 1 = 0 ∨ b 1 = 1) (h2 : b 2 = 0 ∨ b 2 = 1) (h3 : b 3 = 0 ∨ b 3 = 1) (h4 : b 4 = 0 ∨ b 4 = 1) (h5 : b 5 = 0 ∨ b 5 = 1) (h6 : b 6 = 0 ∨ b 6 = 1) (h7 : b 7 = 0 ∨ b 7 = 1) (h8 : b 8 = 0 ∨ b 8 = 1) (h9 : b 9 = 0 ∨ b 9 = 1) (t : List Bool) : stepR (t, lensI b 10) ([0, 1], 7, 1) = (t ++ [decide (b 9 = 1)], lensI b 9) := by
  have e := rest_7 (((((((((((0 + b 0) + b 1) + b 2) + b 3) + b 4) + b 5) + b 6) + b 7) + b 8) + b 9)) (((((((((((0 + b 0) + 0) + b 2) + b 3) + 0) + b 5) + b 6) + 0) + 0) + b 9)) (((((((((((0 + 0) + b 1) + 0) + b 3) + 0) + 0) + 0) + b 7) + b 8) + 0)) (((((((((((0 + b 0) + b 1) + 0) + 0) + 0) + b 5) + b 6) + b 7) + b 8) + 0)) (((((((((((0 + 0) + 0) + 0) + 0) + b 4) + 0) + b 6) + 0) + b 8) + 0)) (((((((((((0 + b 0) + 0) + b 2) + b 3) + b 4) + 0) + 0) + 0) + b 8) + 0)) (((((((((((0 + 0) + b 1) + 0) + b 3) + b 4) + 0) + b 6) + 0) + 0) + 0)) (((((((((((0 + b 0) + b 1) + 0) + 0) + b 4) + 0) + 0) + 0) + 0) + 0))
  rw [← lens_10 b] at e
  unfold stepR leftOf
  dsimp only
  rw [e]
  clear e
  rcases h9 with h | h
  · rw [if_neg (by omega), decide_eq_false (by omega), decide_eq_false (by omega), lens_10, lens_9, h]
    simp only [Int.add_zero]
  · rw [if_pos (by omega), decide_eq_true (by omega), decide_eq_true h, lens_10, lens_9, h]
    refine congrArg _ ?_
    show [((((((((((0 + b 0) + b 1) + b 2) + b 3) + b 4) + b 5) + b 6) + b 7) + b 8) + 1) - 1, ((((((((((0 + b 0) + 0) + b 2) + b 3) + 0) + b 5) + b 6) + 0) + 0) + 1) - 1, ((((((((((0 + 0) + b 1) + 0) + b 3) + 0) + 0) + 0) + b 7) + b 8) + 0), ((((((((((0 + b 0) + b 1) + 0) + 0) + 0) + b 5) + b 6) + b 7) + b 8) + 0), ((((((((((0 + 0) + 0) + 0) + 0) + b 4) + 0) + b 6) + 0) + b 8) + 0), ((((((((((0 + b 0) + 0) + b 2) + b 3) + b 4) + 0) + 0) + 0) + b 8) + 0), ((((((((((0 + 0) + b 1) + 0) + b 3) + b 4) + 0) + b 6) + 0) + 0) + 0), ((((((((((0 + b 0) + b 1) + 0) + 0) + b 4) + 0) + 0) + 0) + 0) + 0)] = _
    simp only [Int.add_zero, Int.add_sub_cancel]
theorem lens_11 (b : Nat → Int) : lensI b 11 = [(((((((((((0 + b 0) + b 1) + b 2) + b 3) + b 4) + b 5) + b 6) + b 7) + b 8) + b 9) + b 10), (((((((((((0 + b 0) + 0) + b 2) + b 3) + 0) + b 5) + b 6) + 0) + 0) + b 9) + b 10), (((((((((((0 + 0) + b 1) + 0) + b 3) + 0) + 0) + 0) + b 7) + b 8) + 0) + b 10), (((((((((((0 + b 0) + b 1) + 0) + 0) + 0) + b 5) + b 6) + b 7) + b 8) + 0) + 0), (((((((((((0 + 0) + 0) + 0) + 0) + b 4) + 0) + b 6) + 0) + b 8) + 0) + 0), (((((((((((0 + b 0) + 0) + b 2) + b 3) + b 4) + 0) + 0) + 0) + b 8) + 0) + 0), (((((((((((0 + 0) + b 1) + 0) + b 3) + b 4) + 0) + b 6) + 0) + 0) + 0) + 0), (((((((((((0 + b 0) + b 1) + 0) + 0) + b 4) + 0) + 0) + 0) + 0) + 0) + 0)] := by rfl
theorem step_10 (b : Nat → Int) (h0 : b 0 = 0 ∨ b 0 = 1) (h1 : b 1 = 0 ∨ b 1 = 1) (h2 : b 2 = 0 ∨ b 2 = 1) (h3 : b 3 = 0 ∨ b 3 = 1) (h4 : b 4 = 0 ∨ b 4 = 1) (h5 : b 5 = 0 ∨ b 5 = 1) (h6 : b 6 = 0 ∨ b 6 = 1) (h7 : b 7 = 0 ∨ b 7 = 1) (h8 : b 8 = 0 ∨ b 8 = 1) (h9 : b 9 = 0 ∨ b 9 = 1) (h10 : b 10 = 0 ∨ b 10 = 1) (t : List Bool) : stepR (t, lensI b 11) ([0, 1, 2], 7, 2) = (t ++ [decide (b 10 = 1)], lensI b 10) := by
  have e := rest_7 ((((((((((((0 + b 0) + b 1) + b 2) + b 3) + b 4) + b 5) + b 6) + b 7) + b 8) + b 9) + b 10)) ((((((((((((0 + b 0) + 0) + b 2) + b 3) + 0) + b 5) + b 6) + 0) + 0) + b 9) + b 10)) ((((((((((((0 + 0) + b 1) + 0) + b 3) + 0) + 0) + 0) + b 7) + b 8) + 0) + b 10)) ((((((((((((0 + b 0) + b 1) + 0) + 0) + 0) + b 5) + b 6) + b 7) + b 8) + 0) + 0)) ((((((((((((0 + 0) + 0) + 0) + 0) + b 4) + 0) + b 6) + 0) + b 8) + 0) + 0)) ((((((((((((0 + b 0) + 0) + b 2) + b 3) + b 4) + 0) + 0) + 0) + b 8) + 0) + 0)) ((((((((((((0 + 0) + b 1) + 0) + b 3) + b 4) + 0) + b 6) + 0) + 0) + 0) + 0)) ((((((((((((0 + b 0) + b 1) + 0) + 0) + b 4) + 0) + 0) + 0) + 0) + 0) + 0))
  rw [← lens_11 b] at e
  unfold stepR leftOf
  dsimp only
  rw [e]
  clear e
  rcases h10 with h | h
  · rw [if_neg (by omega), decide_eq_false (by omega), decide_eq_false (by omega), lens_11, lens_10, h]
    simp only [Int.add_zero]
  · rw [if_pos (by omega), decide_eq_true (by omega), decide_eq_true h, lens_11, lens_10, h]
    refine congrArg _ ?_
    show [(((((((((((0 + b 0) + b 1) + b 2) + b 3) + b 4) + b 5) + b 6) + b 7) + b 8) + b 9) + 1) - 1, (((((((((((0 + b 0) + 0) + b 2) + b 3) + 0) + b 5) + b 6) + 0) + 0) + b 9) + 1) - 1, (((((((((((0 + 0) + b 1) + 0) + b 3) + 0) + 0) + 0) + b 7) + b 8) + 0) + 1) - 1, (((((((((((0 + b 0) + b 1) + 0) + 0) + 0) + b 5) + b 6) + b 7) + b 8) + 0) + 0), (((((((((((0 + 0) + 0) + 0) + 0) + b 4) + 0) + b 6) + 0) + b 8) + 0) + 0), (((((((((((0 + b 0) + 0) + b 2) + b 3) + b 4) + 0) + 0) + 0) + b 8) + 0) + 0), (((((((((((0 + 0) + b 1) + 0) + b 3) + b 4) + 0) + b 6) + 0) + 0) + 0) + 0), (((((((((((0 + b 0) + b 1) + 0) + 0) + b 4) + 0) + 0) + 0) + 0) + 0) + 0)] = _
    simp only [Int.add_zero, Int.add_sub_cancel]
theorem lens_12 (b : Nat → Int) : lensI b 12 = [((((((((((((0 + b 0) + b 1) + b 2) + b 3) + b 4) + b 5) + b 6) + b 7) + b 8) + b 9) + b 10) + b 11), ((((((((((((0 + b 0) + 0) + b 2) + b 3) + 0) + b 5) + b 6) + 0) + 0) + b 9) + b 10) + b 11), ((((((((((((0 + 0) + b 1) + 0) + b 3) + 0) + 0) + 0) + b 7) + b 8) + 0) + b 10) + b 11), ((((((((((((0 + b 0) + b 1) + 0) + 0) + 0) + b 5) + b 6) + b 7) + b 8) + 0) + 0) + 0), ((((((((((((0 + 0) + 0) + 0) + 0) + b 4) + 0) + b 6) + 0) + b 8) + 0) + 0) + b 11), ((((((((((((0 + b 0) + 0) + b 2) + b 3) + b 4) + 0) + 0) + 0) + b 8) + 0) + 0) + 0), ((((((((((((0 + 0) + b 1) + 0) + b 3) + b 4) + 0) + b 6) + 0) + 0) + 0) + 0) + 0), ((((((((((((0 + b 0) + b 1) + 0) + 0) + b 4) + 0) + 0) + 0) + 0) + 0) + 0) + b 11)] := by rfl
theorem step_11 (b : Nat → Int) (h0 : b 0 = 0 ∨ b 0 = 1) (h1 : b 1 = 0 ∨ b 1 = 1) (h2 : b 2 = 0 ∨ b 2 = 1) (h3 : b 3 = 0 ∨ b 3 = 1) (h4 : b 4 = 0 ∨ b 4 = 1) (h5 : b 5 = 0 ∨ b 5 = 1) (h6 : b 6 = 0 ∨ b 6 = 1) (h7 : b 7 = 0 ∨ b 7 = 1) (h8 : b 8 = 0 ∨ b 8 = 1) (h9 : b 9 = 0 ∨ b 9 = 1) (h10 : b 10 = 0 ∨ b 10 = 1) (h11 : b 11 = 0 ∨ b 11 = 1) (t : List Bool) : stepR (t, lensI b 12) ([0, 1, 2, 4, 7], 7, 4) = (t ++ [decide (b 11 = 1)], lensI b 11) := by
  have e := rest_7 (((((((((((((0 + b 0) + b 1) + b 2) + b 3) + b 4) + b 5) + b 6) + b 7) + b 8) + b 9) + b 10) + b 11)) (((((((((((((0 + b 0) + 0) + b 2) + b 3) + 0) + b 5) + b 6) + 0) + 0) + b 9) + b 10) + b 11)) (((((((((((((0 + 0) + b 1) + 0) + b 3) + 0) + 0) + 0) + b 7) + b 8) + 0) + b 10) + b 11)) (((((((((((((0 + b 0) + b 1) + 0) + 0) + 0) + b 5) + b 6) + b 7) + b 8) + 0) + 0) + 0)) (((((((((((((0 + 0) + 0) + 0) + 0) + b 4) + 0) + b 6) + 0) + b 8) + 0) + 0) + b 11)) (((((((((((((0 + b 0) + 0) + b 2) + b 3) + b 4) + 0) + 0) + 0) + b 8) + 0) + 0) + 0)) (((((((((((((0 + 0) + b 1) + 0) + b 3) + b 4) + 0) + b 6) + 0) + 0) + 0) + 0) + 0)) (((((((((((((0 + b 0) + b 1) + 0) + 0) + b 4) + 0) + 0) + 0) + 0) + 0) + 0) + b 11))
  rw [← lens_12 b] at e
  unfold stepR leftOf
  dsimp only
  rw [e]
  clear e
  rcases h11 with h | h
  · rw [if_neg (by omega), decide_eq_false (by omega), decide_eq_false (by omega), lens_12, lens_11, h]
    simp only [Int.add_zero]
  · rw [if_pos (by omega), decide_eq_true (by omega), decide_eq_true h, lens_12, lens_11, h]
    refine congrArg _ ?_
    show [((((((((((((0 + b 0) + b 1) + b 2) + b 3) + b 4) + b 5) + b 6) + b 7) + b 8) + b 9) + b 10) + 1) - 1, ((((((((((((0 + b 0) + 0) + b 2) + b 3) + 0) + b 5) + b 6) + 0) + 0) + b 9) + b 10) + 1) - 1, ((((((((((((0 + 0) + b 1) + 0) + b 3) + 0) + 0) + 0) + b 7) + b 8) + 0) + b 10) + 1) - 1, ((((((((((((0 + b 0) + b 1) + 0) + 0) + 0) + b 5) + b 6) + b 7) + b 8) + 0) + 0) + 0), ((((((((((((0 + 0) + 0) + 0) + 0) + b 4) + 0) + b 6) + 0) + b 8) + 0) + 0) + 1) - 1, ((((((((((((0 + b 0) + 0) + b 2) + b 3) + b 4) + 0) + 0) + 0) + b 8) + 0) + 0) + 0), ((((((((((((0 + 0) + b 1) + 0) + b 3) + b 4) + 0) + b 6) + 0) + 0) + 0) + 0) + 0), ((((((((((((0 + b 0) + b 1) + 0) + 0) + b 4) + 0) + 0) + 0) + 0) + 0) + 0) + 1) - 1] = _
    simp only [Int.add_zero, Int.add_sub_cancel]
theorem read_tells (b : Nat → Int) (hb : ∀ i < 12, b i = 0 ∨ b i = 1) : stR (lensI b 12) 12 = ([decide (b 11 = 1), decide (b 10 = 1), decide (b 9 = 1), decide (b 8 = 1), decide (b 7 = 1), decide (b 6 = 1), decide (b 5 = 1), decide (b 4 = 1), decide (b 3 = 1), decide (b 2 = 1), decide (b 1 = 1), decide (b 0 = 1)], [0, 0, 0, 0, 0, 0, 0, 0]) := by
  show stepR (stepR (stepR (stepR (stepR (stepR (stepR (stepR (stepR (stepR (stepR (stepR ([], lensI b 12) ([0, 1, 2, 4, 7], 7, 4)) ([0, 1, 2], 7, 2)) ([0, 1], 7, 1)) ([0, 2, 3, 4, 5], 6, 2)) ([0, 2, 3], 6, 1)) ([0, 1, 3, 4, 6], 5, 2)) ([0, 1, 3], 5, 1)) ([0, 4, 5, 6, 7], 4, 1)) ([0, 1, 2, 5, 6], 3, 2)) ([0, 1, 5], 3, 1)) ([0, 2, 3, 6, 7], 2, 1)) ([0, 1, 3, 5, 7], 1, 1) = _
  rw [step_11 b (hb 0 (by decide)) (hb 1 (by decide)) (hb 2 (by decide)) (hb 3 (by decide)) (hb 4 (by decide)) (hb 5 (by decide)) (hb 6 (by decide)) (hb 7 (by decide)) (hb 8 (by decide)) (hb 9 (by decide)) (hb 10 (by decide)) (hb 11 (by decide))]
  rw [step_10 b (hb 0 (by decide)) (hb 1 (by decide)) (hb 2 (by decide)) (hb 3 (by decide)) (hb 4 (by decide)) (hb 5 (by decide)) (hb 6 (by decide)) (hb 7 (by decide)) (hb 8 (by decide)) (hb 9 (by decide)) (hb 10 (by decide))]
  rw [step_9 b (hb 0 (by decide)) (hb 1 (by decide)) (hb 2 (by decide)) (hb 3 (by decide)) (hb 4 (by decide)) (hb 5 (by decide)) (hb 6 (by decide)) (hb 7 (by decide)) (hb 8 (by decide)) (hb 9 (by decide))]
  rw [step_8 b (hb 0 (by decide)) (hb 1 (by decide)) (hb 2 (by decide)) (hb 3 (by decide)) (hb 4 (by decide)) (hb 5 (by decide)) (hb 6 (by decide)) (hb 7 (by decide)) (hb 8 (by decide))]
  rw [step_7 b (hb 0 (by decide)) (hb 1 (by decide)) (hb 2 (by decide)) (hb 3 (by decide)) (hb 4 (by decide)) (hb 5 (by decide)) (hb 6 (by decide)) (hb 7 (by decide))]
  rw [step_6 b (hb 0 (by decide)) (hb 1 (by decide)) (hb 2 (by decide)) (hb 3 (by decide)) (hb 4 (by decide)) (hb 5 (by decide)) (hb 6 (by decide))]
  rw [step_5 b (hb 0 (by decide)) (hb 1 (by decide)) (hb 2 (by decide)) (hb 3 (by decide)) (hb 4 (by decide)) (hb 5 (by decide))]
  rw [step_4 b (hb 0 (by decide)) (hb 1 (by decide)) (hb 2 (by decide)) (hb 3 (by decide)) (hb 4 (by decide))]
  rw [step_3 b (hb 0 (by decide)) (hb 1 (by decide)) (hb 2 (by decide)) (hb 3 (by decide))]
  rw [step_2 b (hb 0 (by decide)) (hb 1 (by decide)) (hb 2 (by decide))]
  rw [step_1 b (hb 0 (by decide)) (hb 1 (by decide))]
  rw [step_0 b (hb 0 (by decide))]
  rfl
end
section
theorem kw36 : True := by
  w_top off
  trivial
structure Rec where
  x : Addr
  l : Addr
  d : Addr
  tl : Tok
/-- the tables: what each holds -/
def Tables (w : World) (n : List (Addr × Obj)) (rs : List Rec) (pss : Nat → List (Str × Value)) : Prop := ∀ i r, rs[i]? = some r → ∃ its k, Box w n r.x r.l r.d r.tl its k (pss i)
theorem Tables.mono {w : World} {n n' : List (Addr × Obj)} {rs : List Rec} {pss : Nat → List (Str × Value)} (T : Tables w n rs pss) (k : ∀ q ∈ n, q ∈ n') : Tables w n' rs pss := fun i r h => let ⟨its, c, B⟩ := T i r h; ⟨its, c, B.mono k⟩
theorem Tables.noIter {w : World} {n n' : List (Addr × Obj)} {rs : List Rec} {pss : Nat → List (Str × Value)} (T : Tables w n rs pss) (k : ∀ p ∈ n, isIter p.2 = false → p ∈ n') : Tables w n' rs pss := fun i r h => let ⟨its, c, B⟩ := T i r h; ⟨its, c, B.noIter k⟩
def LApart (rs : List Rec) : Prop := ∀ (i j : Nat) (r q : Rec), rs[i]? = some r → rs[j]? = some q → i ≠ j → r.l ≠ q.l
theorem Tables.kept {w : World} {h₀ h : Heap} {L : Addr} {n n' : List (Addr × Obj)} {rs : List Rec} {pss : Nat → List (Str × Value)} {j : Nat} {r : Rec} {its : Array Value} {k : Nat} {ps : List (Str × Value)} (T : Tables w n rs pss) (N : News h₀ L h n) (D : LApart rs) (hj : rs[j]? = some r) (K : Kept r.l n n') (B : Box w n' r.x r.l r.d r.tl its k ps) : Tables w n' rs (fun i => if i = j then ps else pss i) := fun i q h => by
  by_cases e : i = j
  · subst e
    rw [hj] at h
    cases h
    simp only [if_true]
    exact ⟨its, k, B⟩
  · simp only [if_neg e]
    obtain ⟨its', c, B'⟩ := T i q h
    obtain ⟨its0, c0, B0⟩ := T j r hj
    exact ⟨its', c, B'.kept N B0.hl (D i j q r h hj e) K⟩
def namesL : List Str := [Str.ofString "b", Str.ofString "c", Str.ofString "v", Str.ofString "a", Str.ofString "i", Str.ofString "viavia", Str.ofString "vi", Str.ofString "ia", Str.ofString "", Str.ofString "via-a", Str.ofString "-via", Str.ofString "vvia"]
def okName (i : Nat) (nm : Str) : Prop := Txt.lower nm ∈ namesL.take i ∨ nm = viaS
theorem okName.mono {i : Nat} {nm : Str} (h : okName i nm) : okName (i + 1) nm := h.elim (fun h => .inl (by rw [List.take_add_one]; exact List.mem_append_left _ h)) .inr
theorem okName.at_ {i : Nat} {nm a : Str} (h : namesL[i]? = some a) (e : Txt.lower nm = a) : okName (i + 1) nm := .inl (by rw [List.take_add_one, h, e]; exact List.mem_append_right _ (.head _))
theorem names_new : ∀ i < 12, ∀ a, namesL[i]? = some a → Txt.lower a = a ∧ a ∉ namesL.take i ∧ Txt.lower viaS ≠ a ∧ Txt.lower (Txt.upper a) = a := by decide +kernel
theorem okName.ne {i : Nat} {nm a : Str} (hi : i < 12) (ha : namesL[i]? = some a) (h : okName i nm) : Txt.lower nm ≠ a := fun e => by
  obtain ⟨_, h2, h3, _⟩ := names_new i hi a ha
  rcases h with h | rfl
  · rw [e] at h; exact h2 h
  · exact h3 e
def bOf (cs : List Int) (k : Nat) : Int := if (cs.getD k 0).fmod 12 < 6 then 1 else 0
theorem bOf_01 (cs : List Int) (k : Nat) : bOf cs k = 0 ∨ bOf cs k = 1 := by
  unfold bOf
  split
  · exact .inr rfl
  · exact .inl rfl
theorem bOf_eq (cs : List Int) (k : Nat) : decide (bOf cs k = 1) = decide ((cs.getD k 0).fmod 12 < 6) := by
  unfold bOf
  split
  · rename_i h; rw [decide_eq_true h]; rfl
  · rename_i h; rw [decide_eq_false h]; rfl
theorem bOf_laid (cs : List Int) (k : Nat) : bOf cs k = ((laidOf ((cs.getD k 0).fmod 12) : Nat) : Int) := by
  unfold bOf laidOf
  split
  · rfl
  · rfl
end
section

section
local macro_rules | `(tactic| walk_at "pad") => `(tactic| fail)
theorem kw38 : True := by
  w_top off
  k_with_none
  k_with "k_room" => first | ((try simp only [depth_under_make, depth_under_kw, depth_in1, depth_deeper, depth_caller]); omega) | decide
  k_with "code_def" => (refine' code_def ?k1w2 ?k2w2 ?k3w2 ?k4w2 ?k5w2 ?kAw2 ?kFw2 ?kKw2 ?k6w2 ?k7w2 ?k8w2 ?k9w2 ?kBw2 ?_ ?c2w2 ?c3w2 ?c4w2 ?c5w2; (case k1w2 => k_asm); (case k2w2 => k_asm); (case k3w2 => k_asm); (case k4w2 => k_asm); (case k5w2 => k_asm); (case kAw2 => assumption); (case kFw2 => assumption); (case kKw2 => assumption);  (case k6w2 => k_is); (case k7w2 => k_is); (case k8w2 => k_room); (case k9w2 => first | exact BindsTo.of_eq rfl | exact binds_K (by k_in) rfl (by k_is) rfl rfl rfl | fail "k_enter: no rule for these arguments"); (case c5w2 => decide); (case kBw2 => exact locs rfl); (case c2w2 => exact rfl); (case c3w2 => exact rfl); (case c4w2 => exact rfl))
  k_with "code_defC" => (refine' code_defC ?k1w3 ?k2w3 ?k3w3 ?k4w3 ?k5w3 ?kAw3 ?kFw3 ?kKw3 ?k6w3 ?k7w3 ?k8w3 ?k9w3 ?kBw3 ?kDw3 ?_ ?c2w3 ?c3w3 ?c4w3; (case k1w3 => k_asm); (case k2w3 => k_asm); (case k3w3 => k_asm); (case k4w3 => k_asm); (case k5w3 => k_asm); (case kAw3 => assumption); (case kFw3 => assumption); (case kKw3 => assumption); (case k6w3 => k_is); (case k7w3 => k_is); (case k8w3 => k_room); (case k9w3 => first | exact BindsTo.of_eq rfl | exact binds_K (by k_in) rfl (by k_is) rfl rfl rfl | fail "k_enter: no rule for these arguments"); (case kBw3 => exact rfl); (case kDw3 => decide +kernel); (case c2w3 => exact rfl); (case c3w3 => exact rfl); (case c4w3 => exact rfl))
  k_with "k_mem" => first | assumption | exact List.Mem.head _ | (refine' List.Mem.tail _ ?_; k_mem)
  k_with "k_all" => exact all_ne_of_lt (by assumption) (by first | exact Nat.le_refl _ | exact Nat.le_succ _ | omega)
  k_with "call builtin:str.lower" => (refine PyProof.Rows.SCL.lower (by omega) ?_; intro _)
  k_with "eval ListComp" => refine hold_intro ?_
  k_with "eval Slice none none none" => (refine slice_K (by assumption) (by assumption) ?_; intro _ _ _ _; (try k_sweep))
  k_with "setItem ref ref ref" => refine hold_intro ?_
  k_with "exec Assign cons ListComp" => ((with_reducible show wpAny _ _ (exec (Stmt.Assign [Expr.Subscript _ _ _] _ _) _) _ _ _); refine wpAny_Assign_Subscript ?_)
  k_with "call builtin:len" => (refine' len_L ?Nw11 ?hlw11 ?hsw11 ?_; (case Nw11 => k_asm); (case hlw11 => k_mem); (case hsw11 => omega); intro _ _)
  k_with "subscriptTail Name Slice ref ref" => ((with_reducible show wpAny _ _ (subscriptTail _ _ (Value.ref _) (Value.ref _)) _ _ _); refine' copy_L ?Fw12 ?Nw12 ?hlw12 ?hsw12 ?hzw12 ?_ ?hew12; (case Fw12 => k_asm); (case Nw12 => k_asm); (case hlw12 => k_mem); (case hsw12 => exact List.Mem.head _); (case hzw12 => rw [sizeLine_eq]; omega); (case hew12 => with_unfolding_all rfl); intro _ _ _ _ _; (try k_sweep))
  k_with "kp_more" => (refine' kp_more ?k1w13 ?k2w13 ?k3w13 ?k4w13 ?k5w13 ?kAw13 ?kFw13 ?kKw13 ?k6w13 ?k7w13 ?k8w13 ?kXw13 ?kMw13 ?kNw13 ?kDw13 ?kRw13 ?kPw13 ?kTw13 ?kBw13 ?_ ?c2w13 ?c3w13 ?c4w13 ?c5w13; (case kAw13 => assumption); (case kFw13 => assumption); (case kKw13 => assumption); (case k1w13 => k_asm); (case k2w13 => k_asm); (case k3w13 => k_asm); (case k4w13 => k_asm); (case k5w13 => k_asm); (case k6w13 => k_is); (case k7w13 => k_is); (case k8w13 => k_room); (case kXw13 => kp_lit); (case kMw13 => exact rfl); (case kNw13 => exact rfl); (case kDw13 => kp_flats); (case kRw13 => exact rfl); (case kPw13 => exact rfl); (case kTw13 => exact fun _ => rfl); (case kBw13 => exact fun _ => locs rfl); (case c5w13 => decide); (case c2w13 => exact rfl); (case c3w13 => exact rfl); (case c4w13 => exact rfl))
  k_with "exec For Tuple Name" => refine hold_intro ?_
  k_with "exec For Tuple Call" => refine hold_intro ?_
  k_with "exec For Tuple Call cons nil" => refine hold_intro ?_
  k_with "exec For Tuple Name cons nil" => refine hold_intro ?_
  k_with "call builtin:list.append" => (refine' append_L ?Fw18 ?Nw18 ?hlw18 ?_ ?hzw18; (case Fw18 => k_asm); (case Nw18 => k_asm); (case hlw18 => k_mem); (case hzw18 => (rw [sizeLine_eq]; omega)); intro _ _ _)
  k_with "mk_sit" => (refine' Sit.mk ?KXw19 ?Tw19 ?Bw19 ?Fw19 ?Nw19 ?hAw19 ?hfw19 ?hkew19 ?hroomw19 ?hhw19; (case KXw19 => k_asm); (case Tw19 => k_asm); (case Bw19 => k_asm); (case Fw19 => k_asm); (case Nw19 => k_asm); (case hAw19 => first | with_reducible assumption | exact Around.frames_deeper (Below.stack (by with_reducible assumption)) | rfl); (case hfw19 => first | with_reducible assumption | rfl); (case hkew19 => first | with_reducible assumption | rfl); (case hroomw19 => k_room); (case hhw19 => first | with_reducible assumption | exact handled_deeper (by with_reducible assumption) | assumption | rfl))
  k_with "call ref" => ((with_reducible show wpAny _ _ (call (Value.ref 83) [_, Value.str _ _] (List.zip _ [Value.bool true])) _ _ _); k_dflt (refine' conv_name ?Sw20 ?kaw20 ?kbw20 ?_; (case Sw20 => walk_at "mk_sit"); (case kaw20 => k_asm); (case kbw20 => k_asm); k_whole); intro _ _ _ _)
  k_with "call ref" => ((with_reducible show wpAny _ _ (call (Value.ref 83) [_, Value.str _ _] (List.zip _ [Value.bool false])) _ _ _); k_dflt (refine' conv_val ?Sw21 ?kaw21 ?kbw21 ?_; (case Sw21 => walk_at "mk_sit"); (case kaw21 => k_asm); (case kbw21 => k_asm); k_whole); intro _ _ _ _)
  k_with "box" => first | with_reducible assumption | exact Box.tail (by with_reducible assumption) | exact Box.tail (Box.tail (by with_reducible assumption)) | exact Box.tail (Box.tail (Box.tail (by with_reducible assumption))) | exact Box.tail (Box.tail (Box.tail (Box.tail (by with_reducible assumption))))
  k_with "k_mem" => first | with_reducible assumption | exact Box.hx (by with_reducible assumption) | exact Box.hd (by with_reducible assumption) | exact Box.hl (by with_reducible assumption) | exact List.Mem.head _ | (refine' List.Mem.tail _ ?_; k_mem) | (refine' Kept.mem (by with_reducible assumption) ?_ ?_; (k_mem); (first | with_reducible assumption | exact Ne.symm (by with_reducible assumption)))
  k_with "call ref" => ((with_reducible show wpAny _ _ (call (Value.ref 102) [_, Value.str _ _] _) _ _ _); k_dflt (refine' box_del ?Sw24 ?Bw24 ?kaw24 ?kbw24 ?_; (case Sw24 => walk_at "mk_sit"); (case Bw24 => walk_at "box"); (case kaw24 => walk_at "side"); (case kbw24 => walk_at "side"); k_whole); intro _ _ _ _ _ _ _ _ _)
  k_with "call ref" => ((with_reducible show wpAny _ _ (call (Value.ref 123) [_, Value.str _ _] _) _ _ _); k_dflt (refine' box_get ?Sw25 ?Bw25 ?kaw25 ?kbw25 ?_; (case Sw25 => walk_at "mk_sit"); (case Bw25 => walk_at "box"); (case kaw25 => walk_at "side"); (case kbw25 => walk_at "side"); k_whole); intro _ _ _ _ _ _ _ _ _)
  k_with "call ref" => ((with_reducible show wpAny _ _ (call (Value.ref 181) [_, Value.str _ _, Value.none] _) _ _ _); k_dflt (refine' box_none ?Sw26 ?Bw26 ?kaw26 ?kbw26 ?kcw26 ?_; (case Sw26 => walk_at "mk_sit"); (case Bw26 => walk_at "box"); (case kaw26 => walk_at "side"); (case kbw26 => walk_at "side"); (case kcw26 => walk_at "side"); k_whole); intro _ _ _ _ _ _ _ _ _ _)
  k_with "call ref" => ((with_reducible show wpAny _ _ (call (Value.ref 181) [_, Value.str _ _, Value.str _ _] _) _ _ _); k_dflt (refine' box_str ?Sw27 ?Bw27 ?kaw27 ?kbw27 ?kcw27 ?kdw27 ?kew27 ?_; (case Sw27 => walk_at "mk_sit"); (case Bw27 => walk_at "box"); (case kaw27 => walk_at "side"); (case kbw27 => walk_at "side"); (case kcw27 => walk_at "side"); (case kdw27 => walk_at "side"); (case kew27 => walk_at "side"); k_whole); intro _ _ _ _ _ _ _ _ _ _)
  k_with "call ref" => ((show wpAny _ _ (call (Value.ref 148) [Value.ref _]) _ _ _); k_dflt (refine' box_items ?Sw28 ?Bw28 ?_; (case Sw28 => walk_at "mk_sit"); (case Bw28 => walk_at "box"); k_whole); intro _ _ _ _ _ _)
  k_with "side" => first | with_reducible assumption | decide | omega
  k_with "call builtin:len" => (k_dflt (refine' box_len ?Sw30 ?Bw30 ?_; (case Sw30 => walk_at "mk_sit"); (case Bw30 => walk_at "box"); k_whole); intro _ _ _ _ _)
  k_with "call builtin:list.append" => (refine' append_K ?Fw31 ?Nw31 ?hlw31 ?hzw31 ?_; (case Fw31 => k_asm); (case Nw31 => k_asm); (case hlw31 => k_mem); (case hzw31 => (rw [sizeLine_eq]; first | omega | decide)); intro _ _ _ _ _ _)
  k_with "call builtin:list.append" => (refine' box_tell ?Fw32 ?Nw32 ?Bw32 ?htw32 ?hnew32 ?hsw32 ?_; (case Fw32 => k_asm); (case Nw32 => k_asm); (case Bw32 => walk_at "box"); (case htw32 => k_mem); (case hnew32 => assumption); (case hsw32 => walk_at "side"); intro _ _ _ _ _ _ _)
  k_with "call builtin:list.append" => (refine' box_append ?Fw33 ?Nw33 ?Bw33 ?htw33 ?hsw33 ?hzw33 ?_; (case Fw33 => k_asm); (case Nw33 => k_asm); (case Bw33 => walk_at "box"); (case htw33 => exact List.Mem.head _); (case hsw33 => walk_at "side"); (case hzw33 => walk_at "side"); intro _ _ _ _ _ _)
  k_with "exec For Name Call" => refine hold_intro ?_
  k_with "exec For Name Name" => refine hold_intro ?_
  k_with "exec For Name Name cons nil" => refine hold_intro ?_
  k_with "exec For Name Call cons nil" => refine hold_intro ?_
  k_with "kept2" => first | assumption | exact Kept2.start | (refine' Kept2.tail ?_; walk_at "kept2") | (refine' Kept2.left ?kzw38 ?kww38; (case kww38 => assumption); (case kzw38 => walk_at "kept2")) | (refine' Kept2.right ?kzw38 ?kww38; (case kww38 => assumption); (case kzw38 => walk_at "kept2")) | (refine' Kept2.both ?kzw38 ?kww38; (case kww38 => with_reducible assumption); (case kzw38 => walk_at "kept2"))
  k_with "agree" => first | assumption | exact Agree.start | (refine' Agree.set ?_ ?kww39; (case kww39 => decide); walk_at "agree")
  k_with "delItem ref str" => (k_dflt (refine' delItem_own ?Fw40 ?Xw40 ?Iw40 ?hQw40 ?hSw40 ?hFw40 ?_; (case Fw40 => k_asm); (case Xw40 => k_asm); (case Iw40 => k_inst); (case hSw40 => k_is); (case hFw40 => k_is); (case hQw40 => k_is); k_whole))
  k_with "call builtin:len" => (refine' len_L ?Nw41 ?hlw41 ?hsw41 ?_; (case hlw41 => k_mem); (case hsw41 => with_reducible assumption); (case Nw41 => k_asm); intro _ _)
  trivial
local macro_rules | `(tactic| walk_at "pyIter ref") => `(tactic| refine hold_intro ?_)
theorem kw37 : True := by
  k_with "call ref" => ((with_reducible show wpAny _ _ (call (Value.ref 209) _) _ _ _); refine hold_intro ?_)
  k_with "call type:list" => (refine' list_copyL ?Fw161 ?Nw161 ?hlw161 ?hsw161 ?_; (case Fw161 => k_asm); (case Nw161 => k_asm); (case hlw161 => k_mem); (case hsw161 => with_reducible assumption); intro _ _ _ _ _ _)
  k_with "agree" => first | with_reducible assumption | exact Agree.start | (refine' Agree.set ?_ ?kww162; (case kww162 => decide); walk_at "agree") | (refine' Agree.same ?_ ?kww162; (case kww162 => rfl); walk_at "agree")
  k_with "eval Name" => (k_dflt (refine' nameX_C ?Nw163 ?cw163 ?mw163 ?dw163 ?_ ?aw163 ?bw163; (case aw163 => rfl); (case bw163 => rfl); (case Nw163 => k_asm); (case cw163 => rfl); (case mw163 => k_mem); (case dw163 => with_reducible assumption); k_whole))
  k_with "subscriptTail Name Name ref int" => (refine' item_at ?Nw164 ?hlw164 ?hvw164 ?h0w164 ?hzw164 ?_; (case hlw164 => k_mem); (case hvw164 => with_reducible assumption); (case Nw164 => k_asm); (case h0w164 => with_reducible assumption); (case hzw164 => with_reducible assumption))
  k_with "compareOp In int ref" => (refine' in_tupK (ns := [1, 2, 4, 7]) ?Nw165 ?hmw165 ?hbw165 ?hiw165 ?_; (case Nw165 => k_asm); (case hmw165 => exact List.Mem.head _); (case hbw165 => with_reducible assumption); (case hiw165 => exact .cons _ _ (.cons _ _ (.cons _ _ (.cons _ _ .nil)))))
  k_with "kin" => first | with_reducible assumption | exact List.Mem.head _ | (refine List.mem_cons_of_mem _ ?_; walk_at "kin")
  trivial
section
variable {w : World} {A A₀ : Around} {E : Value → Shared → Prop} {s : Shared} {h₀ base : Heap} {env : Env} {outer : List Env} {L x l d ln : Addr} {tl : Tok} {m mg mb : Str → Option Value} {news : List (Addr × Obj)}
   {p : Program} {loose : List Str} {mean : ExcName → Option Value} {Q : Value → Shared → Prop} {nm : Str} {tk : Tok} {its lits : Array Value} {n lk : Nat} {ls : List Int}
theorem read_spec (S : Sit w A A₀ base h₀ env outer L m p loose mean mg mb news s.heap 30) (hlen : (ln, listOf lits lk) ∈ news) (hi : IntsAre lits.toList ls) (h8 : ls.length = 8)
   (h : ∀ T D1 D2 a2 k1 k2 h' t' news', Fr h₀ L h' m → News h₀ L h' news' → (∀ q ∈ news, q ∈ news') → (T, ({ cls := .type "tuple", data := .seq #[.ref D1, .ref D2] } : Obj)) ∈ news' → (D1, listOf ((stR ls 12).1.map Value.bool).toArray k1) ∈ news' → (D2, listOf a2 k2) ∈ news' → IntsAre a2.toList (stR ls 12).2 → Q (.ref T) {s with heap := h', toks := t'}) :
   wpAny (model pg w) A (call (.ref 214) [.ref ln]) Q E s := by
  obtain ⟨KX, T, B', F, N, hA, hf, hke, hroom, hh⟩ := S
  refine wpAny_call ?_
  k_enter
  rename_i g1 L1 h1 tk1 FG1 F1 B1 X1 T1 l1 o1 o2 d1 d2 N1
  have hsz : lits.size ≤ 1000 := by have := IntsAre.length hi; rw [Array.length_toList] at this; omega
  k_steps
  refine' store_cell ?F1 ?N1 rfl ?hm1 ?hd1 ?h1
  case F1 => k_asm
  case N1 => k_asm
  case hm1 => k_mem
  case hd1 => assumption
  intro h' oL n1 F' N' K1 m1 dL
  k_steps
  rename_i tkz told hz1 lT hz2 Fz2 Nz2
  refine wpAny_For ?_
  k_steps
  refine hold_elim ?_
  k_dflt (refine' scales_spec ?S ?_; (case S => walk_at "mk_sit"); k_whole)
  intro D' h' t' n' F' N' sub' Sc'
  obtain ⟨t0, t1, t2, t3, t4, t5, t6, t7, t8, t9, t10, t11, k, hsc, Sp⟩ := Sc'.explicit
  k_steps
  refine hold_elim ?_
  rename_i Dr hz3 Fz3 Nz3 lD
  have hto := sub' _ (List.Mem.head _)
  have hcL := sub' _ (.tail _ m1)
  have hcO := sub' _ (.tail _ (K1 _ (.tail _ (.head _)) (Nat.ne_of_gt (Nat.lt_succ_self _))))
  have hD1 := sub' _ (.tail _ (K1 _ (.head _) (Nat.ne_of_gt ((by assumption : ∀ q ∈ (L1 + 1 + 1, o1) :: (L1 + 1, o2) :: news, q.1 < _) _ (.tail _ (.head _))))))
  have hneD : _ ≠ told := Nat.ne_of_lt (lT _ (K1 _ (.head _) (Nat.ne_of_gt ((by assumption : ∀ q ∈ (L1 + 1 + 1, o1) :: (L1 + 1, o2) :: news, q.1 < _) _ (.tail _ (.head _))))))
  have hnews : ∀ q ∈ news, q ∈ n1 := fun q hq => K1 q (.tail _ (.tail _ (.tail _ hq))) (Nat.ne_of_lt (Nat.lt_succ_of_lt (l1 q hq)))
  generalize hks : offs (L1 + 1) (L1 + 1 + 1) told ((Dr, listOf #[.ref t11, .ref t10, .ref t9, .ref t8, .ref t7, .ref t6, .ref t5, .ref t4, .ref t3, .ref t2, .ref t1, .ref t0] 0) :: n') = ks
  have hnk : ∀ q ∈ news, q ∈ ks := fun q hq => hks ▸ offs_mem.mpr ⟨.tail _ (sub' _ (.tail _ (hnews q hq))), Nat.ne_of_lt (Nat.lt_succ_of_lt (l1 q hq)), Nat.ne_of_lt (Nat.lt_succ_of_lt (Nat.lt_succ_of_lt (l1 q hq))), Nat.ne_of_lt (lT q (hnews q hq))⟩
  have hDk : (Dr, listOf #[.ref t11, .ref t10, .ref t9, .ref t8, .ref t7, .ref t6, .ref t5, .ref t4, .ref t3, .ref t2, .ref t1, .ref t0] 0) ∈ ks := hks ▸ offs_mem.mpr ⟨.head _, Nat.ne_of_gt (lD _ hcL), Nat.ne_of_gt (lD _ hcO), Nat.ne_of_gt (lD _ hto)⟩
  have Nn : News g1 L1 _ n' := fun q hq => Nz3 q (.tail _ hq)
  have hSk : ∀ (i : Nat) v, [Value.ref t11, .ref t10, .ref t9, .ref t8, .ref t7, .ref t6, .ref t5, .ref t4, .ref t3, .ref t2, .ref t1, .ref t0][i]? = some v → ∃ q, scalesL.reverse[i]? = some q ∧ ScaleAt ks v q := fun i v e => by
    obtain ⟨q, hq, S⟩ := paired_at Sp i v e
    have S' : ScaleAt ((Dr, listOf #[.ref t11, .ref t10, .ref t9, .ref t8, .ref t7, .ref t6, .ref t5, .ref t4, .ref t3, .ref t2, .ref t1, .ref t0] 0) :: n') v q := by
      obtain ⟨t, o, a, c, tn, tw, e1, e2, e3, e4⟩ := S
      exact ⟨t, o, a, c, tn, tw, e1, .tail _ e2, .tail _ e3, e4⟩
    exact ⟨q, hq, hks ▸ scaleAt_offs Nz3 (.tail _ hcL) dL (.tail _ hcO) d1 (.tail _ hto) (scales_some q (List.mem_of_getElem? hq)) S'⟩
  have hkn : ∀ p ∈ ks, p ∈ (Dr, listOf #[.ref t11, .ref t10, .ref t9, .ref t8, .ref t7, .ref t6, .ref t5, .ref t4, .ref t3, .ref t2, .ref t1, .ref t0] 0) :: n' := fun p hp => (offs_mem.mp (hks ▸ hp)).1
  obtain ⟨M, FM⟩ : ∃ M : Str → Option Value, Fr g1 L1 hz3 (fun y => if y = Str.ofString "told" then some (Value.ref told) else M y) := ⟨_, Fz3⟩
  clear Fz3
  refine' for_listN (l := Dr) (its := #[.ref t11, .ref t10, .ref t9, .ref t8, .ref t7, .ref t6, .ref t5, .ref t4, .ref t3, .ref t2, .ref t1, .ref t0]) (n := 0) (JR (L1 + 1) (L1 + 1 + 1) told (fun y => if y = Str.ofString "told" then some (Value.ref told) else M y) ks ls) ?hh ?F ?N ?hJ ?hl ?j0 ?turn ?done
  case hh => exact hh
  case F => exact FM
  case N => exact Nz3
  case hJ => exact JR.mono hkn ⟨_, .tail _ hcL⟩ ⟨_, .tail _ hcO⟩
  case hl => exact fun i m n' J => J.2.1 _ hDk
  case j0 => exact ⟨Agree.start, hkn, ⟨_, _, _, _, .tail _ hcL, dL, .tail _ hD1, hi, hneD⟩, ⟨_, _, .tail _ hcO, d1⟩, _, .tail _ hto⟩
  case turn =>
    rintro i v m₁ n₁ h₂ tk₂ it e ⟨hA', hK, ⟨oL2, D2, a2, k2, e1, e2, e3, e4, e5⟩, ⟨oO2, v2, f1, f2⟩, k3, f3⟩ him hit hnI F' N'
    obtain ⟨u, rfl⟩ : ∃ u, m₁ = overL _ u _ := ⟨_, hA'.over⟩
    have hi12 := (Array.getElem?_eq_some_iff.mp e).1
    obtain ⟨q, hq, t, o, a, c, tn, tw, rfl, g1', g2', g3'⟩ := hSk i v (by rw [← Array.getElem?_toList] at e; exact e)
    obtain ⟨os, num, wt⟩ := q
    have h8' := stR_len h8 i
    simp only [overL] at F'
    refine assign_tripC hh F' N' (hK _ g1') rfl f1 f2 rfl rfl rfl rfl ?_
    intro h₃ tk₃ oO3 n₂ F'' N'' K2 f4 f5
    have y1 := K2 _ e1 (Nat.ne_of_lt (Nat.lt_succ_self _))
    have y2 := K2 _ e3 (cell_ne N' e3 f1 f2 fun v e => by cases e)
    have y3 := K2 _ f3 (cell_ne N' f3 f1 f2 fun v e => by cases e)
    have y4 := K2 _ hit (hnI _ (.tail _ hcO)).symm
    have y5 := fun q (hq : q ∈ ks) => K2 q (hK q hq) (offs_mem.mp (hks ▸ hq)).2.2.1
    clear N' F'
    k_steps
    refine hold_elim ?_
    refine wpAny_For ?_
    k_steps
    refine hold_elim ?_
    rename IsRange _ _ _ _ _ _ _ _ => hr
    rename Fr g1 L1 _ _ => F9
    obtain ⟨M2, AM2, FM2⟩ := fr_split (S := [Str.ofString "number", Str.ofString "weight", Str.ofString "rest", Str.ofString "x"]) (Mo := fun y => if y = Str.ofString "told" then some (Value.ref told) else M y) (l := [(Str.ofString "rest", .int 0 tk₃), (Str.ofString "weight", .int wt tw), (Str.ofString "number", .int num tn), (Str.ofString "told", .ref told)]) F9 (by walk_at "agree") (by simp only [List.forall_mem_cons]; exact ⟨rfl, rfl, rfl, rfl, fun _ h => nomatch h⟩)
    clear F9
    refine' for_range (n := 7) (JX num (stR ls i).2 (overA [(Str.ofString "rest", .int 0 tk₃), (Str.ofString "weight", .int wt tw), (Str.ofString "number", .int num tn), (Str.ofString "told", .ref told)] M2) n₂) ?hh1 ?F1 ?N1 hr ?hsm ?hn ?ht ?hJ1 ?j01 ?turn1 ?done1
    case hh1 => exact hh
    case F1 => exact FM2
    case N1 => k_asm
    case hsm => decide
    case hn => decide
    case ht => exact fun _ _ => rfl
    case hJ1 => exact JX.mono
    case j01 => exact ⟨Agree.start, ⟨_, rfl⟩, fun _ h => h⟩
    case turn1 =>
      rintro j tv m₁ n₃ h₄ tk₄ it4 hj7 ⟨hA4, ⟨tr, hr4⟩, hK4⟩ him4 hit4 F' N'
      obtain ⟨u4, rfl⟩ : ∃ u, m₁ = overL _ u _ := ⟨_, hA4.over⟩
      have hu4 : u4 (Str.ofString "rest") = some (.int (restTo num (stR ls i).2 j) tr) := hr4
      simp only [overL, overA, hu4] at F'
      obtain ⟨z, hz⟩ : ∃ z, (stR ls i).2[(1 + (j : Int)).toNat]? = some z := ⟨_, List.getElem?_eq_getElem (by omega)⟩
      obtain ⟨tz, ez⟩ := ints_at e4 hz
      have z0 : (0 : Int) ≤ 1 + (j : Int) := by omega
      have z1 : (1 + (j : Int)) < 1000 := by omega
      have w1 := hK4 _ y1
      have w2 := hK4 _ y2
      refine assign_name F' N' rfl rfl ?_
      intro h₅ tk₅ F' N'
      obtain ⟨b, hb⟩ : ∃ b, decide ((1 + (j : Int)) ∈ ([1, 2, 4, 7] : List Int)) = b := ⟨_, rfl⟩
      cases b
      · k_steps
        · refine ⟨_, _, _, _, rfl, by assumption, by assumption, .tail _ hit4, by walk_at "agree", ⟨_, by rw [← rest_out (by assumption) hb]; rfl⟩, fun p hp => .tail _ (hK4 p hp)⟩
        · refine ⟨_, _, _, _, rfl, by assumption, by assumption, hit4, by walk_at "agree", ⟨_, by rw [← rest_no (by assumption)]; rfl⟩, hK4⟩
      · k_steps
        · refine ⟨_, _, _, _, rfl, by assumption, by assumption, .tail _ hit4, by walk_at "agree", ⟨_, by rw [← rest_in (by assumption) hb]; rfl⟩, fun p hp => .tail _ (hK4 p hp)⟩
        · refine ⟨_, _, _, _, rfl, by assumption, by assumption, hit4, by walk_at "agree", ⟨_, by rw [← rest_no (by assumption)]; rfl⟩, hK4⟩
    case done1 =>
      rintro m₁ n₃ h₄ tk₄ ⟨hA4, ⟨tr, hr4⟩, hK4⟩ F' N'
      obtain ⟨u4, rfl⟩ : ∃ u, m₁ = overL _ u _ := ⟨_, hA4.over⟩
      have hu4 : u4 (Str.ofString "rest") = some (.int (restTo num (stR ls i).2 7) tr) := hr4
      simp only [overL, overA, hu4] at F'
      have w1 := hK4 _ y1
      have w2 := hK4 _ y2
      have w3 := hK4 _ y3
      have w4 := hK4 _ y4
      have w5 := fun q hq => hK4 q (y5 q hq)
      have w6 := hK4 _ f4
      have hsz3 : (List.map Value.bool (stR ls i).1).toArray.size ≤ 1000 := by rw [List.size_toArray, List.length_map, stR_tell i (Nat.le_of_lt hi12)]; exact Nat.le_trans (Nat.le_of_lt hi12) (by show 12 ≤ 1000; decide)
      k_steps
      · refine hold_elim ?_
        rename Fr _ _ _ _ => F9
        rename News _ _ _ _ => N9
        rename Kept told _ _ => K9
        have v1 := K9 _ w1 (cell_ne N' w3 w1 e2 fun v e => by cases e).symm
        have v2 := K9 _ w2 e5
        have v6 := K9 _ w6 (cell_ne N' w3 w6 f5 fun v e => by cases e).symm
        have v7 := fun q hq => K9 q (w5 q hq) (offs_mem.mp (hks ▸ hq)).2.2.2
        have v4 := K9 _ w4 (iter_ne N' him w4 w3 isIter_list)
        refine' ListComp_own (fun i' zs n => IntsAre zs ((List.range i').map fun (x : Nat) => if ((x : Nat) : Int) ∈ os then (stR ls i).2.getD x 0 - 1 else (stR ls i).2.getD x 0)) F9 ?hclos ?hcell ?hkind ?hnames ?hx ?hsrc ?hfs
        case hclos => with_unfolding_all rfl
        case hcell => decide
        case hkind => rfl
        case hnames => decide
        case hx => rfl
        case hfs => intro _; with_unfolding_all rfl
        case hsrc =>
          k_steps
          refine hold_elim ?_
          rename IsRange _ _ _ _ _ _ _ _ => hr8
          refine' src_range (N₁ := 8) ?hh8 ?F8 ?N8 hr8 ?hs8 ?Q8
          case hh8 => exact hh
          case F8 => k_asm
          case N8 => k_asm
          case hs8 => decide
          case Q8 =>
            intro I fp wr P St h₈ O hP
            refine ⟨I, fp, wr, 8, P, St, h₈, _, _, rfl, rfl, O, .nil, ?_, ?_⟩
            · intro C i' v zs n₁ n₂ h tk m₃ E' hi' hPv hJ hz sub sub2 F N hn hm hC
              obtain ⟨t, rfl⟩ := hP _ _ hPv
              refine left_elt rfl rfl rfl rfl rfl rfl N (sub2 _ (sub _ v6)) f5 (sub2 _ (sub _ v1)) e2 (sub2 _ (sub _ (v7 _ g2'))) g3' (sub2 _ (sub _ v2)) e4 h8' hi' hn hm ?_
              intro tk t'
              refine ⟨_, _, [], rfl, F, N, (fun q hq => nomatch hq), ?_⟩
              show IntsAre (zs ++ [_]) ((List.range (i' + 1)).map _)
              rw [List.range_succ, List.map_append]
              exact ints_snoc hJ _ _
            · intro D zs k n₁ h' tk F' N' ne sub hJ hz
              have M9 := (by assumption : (told, listOf ((List.map Value.bool (stR ls i).1).toArray.push _) _) ∈ _)
              have x3 := sub _ M9
              refine store_cell F' N' rfl (.tail _ (sub _ v1)) e2 ?_
              intro h₉ oL3 n₄ F9' N9' K4 m4 d4
              have z3 := K4 _ (.tail _ x3) (cell_ne N' (.tail _ x3) (.tail _ (sub _ v1)) e2 fun v e => by cases e)
              have z0 := K4 _ (.head _) (cell_ne N' (.head _) (.tail _ (sub _ v1)) e2 fun v e => by cases e)
              have z6 := K4 _ (.tail _ (sub _ v6)) (Nat.ne_of_gt (Nat.lt_succ_self _))
              have z4 := K4 _ (.tail _ (sub _ v4)) (hnI _ (.tail _ hcL)).symm
              have z7 := fun q hq => K4 q (.tail _ (sub q (v7 q hq))) (offs_mem.mp (hks ▸ hq)).2.1
              k_steps
              refine ⟨_, _, _, _, rfl, F9', N9', z4, by walk_at "agree", z7, ⟨_, _, _, _, m4, d4, z0, by rw [stR_yes hq (by assumption)]; exact hJ, (ne (told, _) x3).symm⟩, ⟨_, _, z6, f5⟩, ⟨_, by rw [stR_told hq]; exact z3⟩⟩
      · rename Fr _ _ _ _ => F9
        rename News _ _ _ _ => N9
        rename Kept told _ _ => K9
        have v1 := K9 _ w1 (cell_ne N' w3 w1 e2 fun v e => by cases e).symm
        have v2 := K9 _ w2 e5
        have v6 := K9 _ w6 (cell_ne N' w3 w6 f5 fun v e => by cases e).symm
        have v7 := fun q hq => K9 q (w5 q hq) (offs_mem.mp (hks ▸ hq)).2.2.2
        have v4 := K9 _ w4 (iter_ne N' him w4 w3 isIter_list)
        refine ⟨_, _, _, _, rfl, F9, N9, v4, by walk_at "agree", v7, ⟨_, _, _, _, v1, e2, v2, by rw [stR_no hq (by assumption)]; exact e4, e5⟩, ⟨_, _, v6, f5⟩, ⟨_, by rw [stR_told hq]; assumption⟩⟩
  case done =>
    rintro m₁ n₁ h₂ tk₂ ⟨hA', hK, ⟨oL2, D2, a2, k2, e1, e2, e3, e4, e5⟩, ⟨oO2, v2, f1, f2⟩, k3, f3⟩ F' N'
    obtain ⟨u, rfl⟩ : ∃ u, m₁ = overL _ u _ := ⟨_, hA'.over⟩
    simp only [overL] at F'
    have e4 : IntsAre a2.toList (stR ls 12).2 := e4
    have f3 : (told, listOf (List.map Value.bool (stR ls 12).1).toArray k3) ∈ n₁ := f3
    k_steps
    exact h _ _ _ _ _ _ _ _ _ (by assumption) (by assumption) (fun q hq => .tail _ (hK q (hnk q hq))) (.head _) (.tail _ f3) (.tail _ e3) e4
end
end
section
local macro_rules | `(tactic| walk_at "pad") => `(tactic| fail)
local macro_rules | `(tactic| walk_at "pad") => `(tactic| fail)
local macro_rules | `(tactic| walk_at "pad") => `(tactic| fail)
theorem kw40 : True := by
  w_top off
  k_with_none
  k_with "k_room" => first | ((try simp only [depth_under_make, depth_under_kw, depth_in1, depth_deeper, depth_caller]); omega) | decide
  k_with "code_def" => (refine' code_def ?k1w2 ?k2w2 ?k3w2 ?k4w2 ?k5w2 ?kAw2 ?kFw2 ?kKw2 ?k6w2 ?k7w2 ?k8w2 ?k9w2 ?kBw2 ?_ ?c2w2 ?c3w2 ?c4w2 ?c5w2; (case k1w2 => k_asm); (case k2w2 => k_asm); (case k3w2 => k_asm); (case k4w2 => k_asm); (case k5w2 => k_asm); (case kAw2 => assumption); (case kFw2 => assumption); (case kKw2 => assumption);  (case k6w2 => k_is); (case k7w2 => k_is); (case k8w2 => k_room); (case k9w2 => first | exact BindsTo.of_eq rfl | exact binds_K (by k_in) rfl (by k_is) rfl rfl rfl | fail "k_enter: no rule for these arguments"); (case c5w2 => decide); (case kBw2 => exact locs rfl); (case c2w2 => exact rfl); (case c3w2 => exact rfl); (case c4w2 => exact rfl))
  k_with "code_defC" => (refine' code_defC ?k1w3 ?k2w3 ?k3w3 ?k4w3 ?k5w3 ?kAw3 ?kFw3 ?kKw3 ?k6w3 ?k7w3 ?k8w3 ?k9w3 ?kBw3 ?kDw3 ?_ ?c2w3 ?c3w3 ?c4w3; (case k1w3 => k_asm); (case k2w3 => k_asm); (case k3w3 => k_asm); (case k4w3 => k_asm); (case k5w3 => k_asm); (case kAw3 => assumption); (case kFw3 => assumption); (case kKw3 => assumption); (case k6w3 => k_is); (case k7w3 => k_is); (case k8w3 => k_room); (case k9w3 => first | exact BindsTo.of_eq rfl | exact binds_K (by k_in) rfl (by k_is) rfl rfl rfl | fail "k_enter: no rule for these arguments"); (case kBw3 => exact rfl); (case kDw3 => decide +kernel); (case c2w3 => exact rfl); (case c3w3 => exact rfl); (case c4w3 => exact rfl))
  k_with "k_mem" => first | assumption | exact List.Mem.head _ | (refine' List.Mem.tail _ ?_; k_mem)
  k_with "k_all" => exact all_ne_of_lt (by assumption) (by first | exact Nat.le_refl _ | exact Nat.le_succ _ | omega)
  k_with "call builtin:str.lower" => (refine PyProof.Rows.SCL.lower (by omega) ?_; intro _)
  k_with "eval ListComp" => refine hold_intro ?_
  k_with "eval Slice none none none" => (refine slice_K (by assumption) (by assumption) ?_; intro _ _ _ _; (try k_sweep))
  k_with "setItem ref ref ref" => refine hold_intro ?_
  k_with "exec Assign cons ListComp" => ((with_reducible show wpAny _ _ (exec (Stmt.Assign [Expr.Subscript _ _ _] _ _) _) _ _ _); refine wpAny_Assign_Subscript ?_)
  k_with "call builtin:len" => (refine' len_L ?Nw11 ?hlw11 ?hsw11 ?_; (case Nw11 => k_asm); (case hlw11 => k_mem); (case hsw11 => omega); intro _ _)
  k_with "subscriptTail Name Slice ref ref" => ((with_reducible show wpAny _ _ (subscriptTail _ _ (Value.ref _) (Value.ref _)) _ _ _); refine' copy_L ?Fw12 ?Nw12 ?hlw12 ?hsw12 ?hzw12 ?_ ?hew12; (case Fw12 => k_asm); (case Nw12 => k_asm); (case hlw12 => k_mem); (case hsw12 => exact List.Mem.head _); (case hzw12 => rw [sizeLine_eq]; omega); (case hew12 => with_unfolding_all rfl); intro _ _ _ _ _; (try k_sweep))
  k_with "kp_more" => (refine' kp_more ?k1w13 ?k2w13 ?k3w13 ?k4w13 ?k5w13 ?kAw13 ?kFw13 ?kKw13 ?k6w13 ?k7w13 ?k8w13 ?kXw13 ?kMw13 ?kNw13 ?kDw13 ?kRw13 ?kPw13 ?kTw13 ?kBw13 ?_ ?c2w13 ?c3w13 ?c4w13 ?c5w13; (case kAw13 => assumption); (case kFw13 => assumption); (case kKw13 => assumption); (case k1w13 => k_asm); (case k2w13 => k_asm); (case k3w13 => k_asm); (case k4w13 => k_asm); (case k5w13 => k_asm); (case k6w13 => k_is); (case k7w13 => k_is); (case k8w13 => k_room); (case kXw13 => kp_lit); (case kMw13 => exact rfl); (case kNw13 => exact rfl); (case kDw13 => kp_flats); (case kRw13 => exact rfl); (case kPw13 => exact rfl); (case kTw13 => exact fun _ => rfl); (case kBw13 => exact fun _ => locs rfl); (case c5w13 => decide); (case c2w13 => exact rfl); (case c3w13 => exact rfl); (case c4w13 => exact rfl))
  k_with "exec For Tuple Name" => refine hold_intro ?_
  k_with "exec For Tuple Call" => refine hold_intro ?_
  k_with "exec For Tuple Call cons nil" => refine hold_intro ?_
  k_with "exec For Tuple Name cons nil" => refine hold_intro ?_
  k_with "call builtin:list.append" => (refine' append_L ?Fw18 ?Nw18 ?hlw18 ?_ ?hzw18; (case Fw18 => k_asm); (case Nw18 => k_asm); (case hlw18 => k_mem); (case hzw18 => (rw [sizeLine_eq]; omega)); intro _ _ _)
  k_with "mk_sit" => (refine' Sit.mk ?KXw19 ?Tw19 ?Bw19 ?Fw19 ?Nw19 ?hAw19 ?hfw19 ?hkew19 ?hroomw19 ?hhw19; (case KXw19 => k_asm); (case Tw19 => k_asm); (case Bw19 => k_asm); (case Fw19 => k_asm); (case Nw19 => k_asm); (case hAw19 => first | with_reducible assumption | exact Around.frames_deeper (Below.stack (by with_reducible assumption)) | rfl); (case hfw19 => first | with_reducible assumption | rfl); (case hkew19 => first | with_reducible assumption | rfl); (case hroomw19 => k_room); (case hhw19 => first | with_reducible assumption | exact handled_deeper (by with_reducible assumption) | assumption | rfl))
  k_with "call ref" => ((with_reducible show wpAny _ _ (call (Value.ref 83) [_, Value.str _ _] (List.zip _ [Value.bool true])) _ _ _); k_dflt (refine' conv_name ?Sw20 ?kaw20 ?kbw20 ?_; (case Sw20 => walk_at "mk_sit"); (case kaw20 => k_asm); (case kbw20 => k_asm); k_whole); intro _ _ _ _)
  k_with "call ref" => ((with_reducible show wpAny _ _ (call (Value.ref 83) [_, Value.str _ _] (List.zip _ [Value.bool false])) _ _ _); k_dflt (refine' conv_val ?Sw21 ?kaw21 ?kbw21 ?_; (case Sw21 => walk_at "mk_sit"); (case kaw21 => k_asm); (case kbw21 => k_asm); k_whole); intro _ _ _ _)
  k_with "box" => first | with_reducible assumption | exact Box.tail (by with_reducible assumption) | exact Box.tail (Box.tail (by with_reducible assumption)) | exact Box.tail (Box.tail (Box.tail (by with_reducible assumption))) | exact Box.tail (Box.tail (Box.tail (Box.tail (by with_reducible assumption))))
  k_with "k_mem" => first | with_reducible assumption | exact Box.hx (by with_reducible assumption) | exact Box.hd (by with_reducible assumption) | exact Box.hl (by with_reducible assumption) | exact List.Mem.head _ | (refine' List.Mem.tail _ ?_; k_mem) | (refine' Kept.mem (by with_reducible assumption) ?_ ?_; (k_mem); (first | with_reducible assumption | exact Ne.symm (by with_reducible assumption)))
  k_with "call ref" => ((with_reducible show wpAny _ _ (call (Value.ref 102) [_, Value.str _ _] _) _ _ _); k_dflt (refine' box_del ?Sw24 ?Bw24 ?kaw24 ?kbw24 ?_; (case Sw24 => walk_at "mk_sit"); (case Bw24 => walk_at "box"); (case kaw24 => walk_at "side"); (case kbw24 => walk_at "side"); k_whole); intro _ _ _ _ _ _ _ _ _)
  k_with "call ref" => ((with_reducible show wpAny _ _ (call (Value.ref 123) [_, Value.str _ _] _) _ _ _); k_dflt (refine' box_get ?Sw25 ?Bw25 ?kaw25 ?kbw25 ?_; (case Sw25 => walk_at "mk_sit"); (case Bw25 => walk_at "box"); (case kaw25 => walk_at "side"); (case kbw25 => walk_at "side"); k_whole); intro _ _ _ _ _ _ _ _ _)
  k_with "call ref" => ((with_reducible show wpAny _ _ (call (Value.ref 181) [_, Value.str _ _, Value.none] _) _ _ _); k_dflt (refine' box_none ?Sw26 ?Bw26 ?kaw26 ?kbw26 ?kcw26 ?_; (case Sw26 => walk_at "mk_sit"); (case Bw26 => walk_at "box"); (case kaw26 => walk_at "side"); (case kbw26 => walk_at "side"); (case kcw26 => walk_at "side"); k_whole); intro _ _ _ _ _ _ _ _ _ _)
  k_with "call ref" => ((with_reducible show wpAny _ _ (call (Value.ref 181) [_, Value.str _ _, Value.str _ _] _) _ _ _); k_dflt (refine' box_str ?Sw27 ?Bw27 ?kaw27 ?kbw27 ?kcw27 ?kdw27 ?kew27 ?_; (case Sw27 => walk_at "mk_sit"); (case Bw27 => walk_at "box"); (case kaw27 => walk_at "side"); (case kbw27 => walk_at "side"); (case kcw27 => walk_at "side"); (case kdw27 => walk_at "side"); (case kew27 => walk_at "side"); k_whole); intro _ _ _ _ _ _ _ _ _ _)
  k_with "call ref" => ((show wpAny _ _ (call (Value.ref 148) [Value.ref _]) _ _ _); k_dflt (refine' box_items ?Sw28 ?Bw28 ?_; (case Sw28 => walk_at "mk_sit"); (case Bw28 => walk_at "box"); k_whole); intro _ _ _ _ _ _)
  k_with "side" => first | with_reducible assumption | decide | omega
  k_with "call builtin:len" => (k_dflt (refine' box_len ?Sw30 ?Bw30 ?_; (case Sw30 => walk_at "mk_sit"); (case Bw30 => walk_at "box"); k_whole); intro _ _ _ _ _)
  k_with "call builtin:list.append" => (refine' append_K ?Fw31 ?Nw31 ?hlw31 ?hzw31 ?_; (case Fw31 => k_asm); (case Nw31 => k_asm); (case hlw31 => k_mem); (case hzw31 => (rw [sizeLine_eq]; first | omega | decide)); intro _ _ _ _ _ _)
  k_with "call builtin:list.append" => (refine' box_tell ?Fw32 ?Nw32 ?Bw32 ?htw32 ?hnew32 ?hsw32 ?_; (case Fw32 => k_asm); (case Nw32 => k_asm); (case Bw32 => walk_at "box"); (case htw32 => k_mem); (case hnew32 => assumption); (case hsw32 => walk_at "side"); intro _ _ _ _ _ _ _)
  k_with "call builtin:list.append" => (refine' box_append ?Fw33 ?Nw33 ?Bw33 ?htw33 ?hsw33 ?hzw33 ?_; (case Fw33 => k_asm); (case Nw33 => k_asm); (case Bw33 => walk_at "box"); (case htw33 => exact List.Mem.head _); (case hsw33 => walk_at "side"); (case hzw33 => walk_at "side"); intro _ _ _ _ _ _)
  k_with "exec For Name Call" => refine hold_intro ?_
  k_with "exec For Name Name" => refine hold_intro ?_
  k_with "exec For Name Name cons nil" => refine hold_intro ?_
  k_with "exec For Name Call cons nil" => refine hold_intro ?_
  k_with "kept2" => first | assumption | exact Kept2.start | (refine' Kept2.tail ?_; walk_at "kept2") | (refine' Kept2.left ?kzw38 ?kww38; (case kww38 => assumption); (case kzw38 => walk_at "kept2")) | (refine' Kept2.right ?kzw38 ?kww38; (case kww38 => assumption); (case kzw38 => walk_at "kept2")) | (refine' Kept2.both ?kzw38 ?kww38; (case kww38 => with_reducible assumption); (case kzw38 => walk_at "kept2"))
  k_with "agree" => first | assumption | exact Agree.start | (refine' Agree.set ?_ ?kww39; (case kww39 => decide); walk_at "agree")
  k_with "delItem ref str" => (k_dflt (refine' delItem_own ?Fw40 ?Xw40 ?Iw40 ?hQw40 ?hSw40 ?hFw40 ?_; (case Fw40 => k_asm); (case Xw40 => k_asm); (case Iw40 => k_inst); (case hSw40 => k_is); (case hFw40 => k_is); (case hQw40 => k_is); k_whole))
  k_with "call builtin:len" => (refine' len_L ?Nw41 ?hlw41 ?hsw41 ?_; (case hlw41 => k_mem); (case hsw41 => with_reducible assumption); (case Nw41 => k_asm); intro _ _)
  trivial
def lawStmt : Stmt := pg.main.body.getLastD (.Pass default)
def lawBody : List Stmt := match lawStmt with
  | .FunctionDef _ _ b _ _ _ _ _ _ _ => b
  | _ => []
def lawScope : Scope := match lawStmt with
  | .FunctionDef _ _ _ _ _ _ sc _ _ _ => sc
  | _ => default
section
variable {w : World} {A A₀ : Around} {E : Value → Shared → Prop} {s : Shared} {h₀ base : Heap} {outer : List Env} {L C x l d : Addr} {tl : Tok} {m m₃ mg mb : Str → Option Value} {news : List (Addr × Obj)} {env env' : Env} {scope : Scope} {cl : List (Str × Addr)} {p1 p2 p3 p4 p5 : Pos}
   {p : Program} {loose : List Str} {mean : ExcName → Option Value} {Q : Value → Shared → Prop} {its : Array Value} {n : Nat} {ps : List (Str × Value)} {c : Int} {t : Tok}
theorem lt6_elt (hk : (compEnvC scope cl C env).scope.kind = .function) (hj : (compEnvC scope cl C env).kindOf (Str.ofString "cell") = some .local) (hn : s.heap.Ns C m₃) (hm : m₃ (Str.ofString "cell") = some (.int c t))
   (hQ : ∀ tk, Q (.bool (decide (c.fmod 12 < 6))) { s with toks := tk }) :
   wpAny (model pg w) A (eval (.Compare (.BinOp (.Name (Str.ofString "cell") p1) .Mod (.Constant (.int 12) 0 p2) p3) [.Lt] [.Constant (.int 6) 0 p4] p5) (compEnvC scope cl C env)) Q E s := by
  refine wpAny_Compare1 ?_
  refine wpAny_BinOp ?_
  refine wpAny_Name (wpAny_loadName_local hk hj hn hm ?_)
  refine wpAny_Constant_int ?_
  refine mod_int (by decide) ?_
  refine wpAny_Constant_int ?_
  refine PyProof.Rows.lt_int ?_
  exact hQ _
theorem len_elt (S : Sit w A A₀ base h₀ env' outer L m p loose mean mg mb news s.heap 10) (B : Box w news x l d tl its n ps) (hg : env.globals = mainGlobals) (hb : env.builtins = builtinsNs) (hk : (compEnvC scope cl C env).scope.kind = .function) (hj : (compEnvC scope cl C env).kindOf (Str.ofString "table") = some .local) (h1 : (compEnvC scope cl C env).kindOf (Str.ofString "len") = some .globalImplicit) (hn : s.heap.Ns C m₃) (hm : m₃ (Str.ofString "table") = some (.ref x))
   (hQ : ∀ h' t' tk, Fr h₀ L h' m → News h₀ L h' news → Q (.int ps.length tk) { s with heap := h', toks := t' }) :
   wpAny (model pg w) A (eval (.Call (.Name (Str.ofString "len") p1) [.Name (Str.ofString "table") p2] [] p3) (compEnvC scope cl C env)) Q E s := by
  refine Call_ ?_
  refine LCgL.ld_built S.F S.KX S.T (by k_is) rfl (by decide) ?_ hg hb hk h1
  refine PyProof.Rows.callWith_builtin1 ?_
  refine spliced_more ?_
  refine wpAny_Name (wpAny_loadName_local hk hj hn hm ?_)
  refine spliced_none ?_
  exact box_len S B hQ
end
theorem len_elem {w : World} {A A₀ : Around} {s : Shared} {h₀ base : Heap} {outer : List Env} {L : Addr} {m mg mb : Str → Option Value} {news : List (Addr × Obj)} {env env' : Env} {scope : Scope} {cl : List (Str × Addr)} {p1 p2 p3 : Pos} {p : Program} {loose : List Str} {mean : ExcName → Option Value} {rs : List Rec} {pss : Nat → List (Str × Value)} {tits : Array Value} {P : Nat → Value → Prop} {N : Nat}
   (KX : (hd.heap_39 w.params).In h₀) (T : Top p loose mean mg mb h₀) (B' : Below A₀ base outer h₀) (hA : A.frames = some (env' :: outer)) (hf : env'.frame = some L) (hke : env'.scope.kind = .function) (hroom : A.depth + 10 < recursionLimit) (hh : A.handled = none)
   (hB : Tables w news rs pss) (hrt : tits.toList = rs.map fun r => Value.ref r.x) (hP : ∀ i v, P i v → tits[i]? = some v)
   (hg : env.globals = mainGlobals) (hb : env.builtins = builtinsNs) (hk : ∀ C, (compEnvC scope cl C env).scope.kind = .function) (hj : ∀ C, (compEnvC scope cl C env).kindOf (Str.ofString "table") = some .local) (h1 : ∀ C, (compEnvC scope cl C env).kindOf (Str.ofString "len") = some .globalImplicit) :
   ElemOk pg w A env scope cl (Str.ofString "table") (.Call (.Name (Str.ofString "len") p1) [.Name (Str.ofString "table") p2] [] p3) h₀ L m s news (fun i zs n => IntsAre zs ((List.range i).map fun x => ((pss x).length : Int))) P N := by
  intro C i v zs n₁ n₂ h tk m₃ E' hi hPv hJ hz sub sub2 F N hn hm hC
  have hv := hP _ _ hPv
  rw [← Array.getElem?_toList, hrt, List.getElem?_map] at hv
  obtain ⟨r, hr, rfl⟩ := Option.map_eq_some_iff.mp hv
  obtain ⟨its, k, B⟩ := hB i r hr
  refine len_elt (B := B.mono fun q hq => sub2 _ (sub _ hq)) ⟨KX, T, B', F, N, hA, hf, hke, hroom, hh⟩ hg hb (hk C) (hj C) (h1 C) hn hm ?_
  intro h' t' tk F' N'
  refine ⟨_, _, [], rfl, F', N', (fun q hq => nomatch hq), ?_⟩
  show IntsAre (zs ++ [_]) ((List.range (i + 1)).map _)
  rw [List.range_succ, List.map_append]
  exact ints_snoc hJ _ _
theorem lens_eq {pss : Nat → List (Str × Value)} {b : Nat → Int} (h : ∀ x < 8, ((pss x).length : Int) = lenI b 12 x) : ((List.range 8).map fun x => ((pss x).length : Int)) = lensI b 12 := List.map_congr_left fun x hx => h x (List.mem_range.mp hx)
section
variable {w : World} {A A₀ : Around} {E : Value → Shared → Prop} {s : Shared} {h₀ : Heap} {L fa lc ln sc TT GG NO : Addr} {cd : Value} {m mg mb : Str → Option Value} {news : List (Addr × Obj)}
   {p : Program} {loose : List Str} {mean : ExcName → Option Value} {Q : Flow → Shared → Prop} {cits nits tits gits zits : Array Value} {cn nn kt kg kz : Nat} {cs : List Int} {rs : List Rec} {pss : Nat → List (Str × Value)}
local macro_rules | `(tactic| walk_at "pyIter ref") => `(tactic| refine hold_intro ?_)
theorem kw39 : True := by
  k_with "exec Assign cons ListComp" => refine hold_intro ?_
  k_with "compareOp Eq ref ref" => refine hold_intro ?_
  k_with "compareOp NotEq ref ref" => refine hold_intro ?_
  k_with "call ref" => ((with_reducible show wpAny _ _ (call (Value.ref 214) _) _ _ _); refine hold_intro ?_)
  k_with "agree" => first | with_reducible assumption | exact Agree.start | (refine' Agree.set ?_ ?kww171; (case kww171 => decide); walk_at "agree") | (refine' Agree.same ?_ ?kww171; (case kww171 => rfl); walk_at "agree")
  k_with "kin" => first | with_reducible assumption | exact List.Mem.head _ | (refine List.mem_cons_of_mem _ ?_; walk_at "kin")
  k_with "subscriptTail Name Name ref int" => ((with_reducible show wpAny _ _ (subscriptTail _ _ (Value.ref _) (Value.int _ _)) _ _ _); (refine' item_at ?Nw173 ?hlw173 ?hvw173 ?h0w173 ?hzw173 ?_; (case Nw173 => k_asm); (case hlw173 => walk_at "kin"); (case hvw173 => with_reducible assumption); (case h0w173 => with_reducible assumption); (case hzw173 => with_reducible assumption)))
  trivial
theorem law_end (S : Sit w A A₀ h₀ h₀ (envOfC (Str.ofString "law") lawScope L fa cd) [] L m p loose mean mg mb news s.heap 100) (hu : A.units + 70 < cLine)
   (m1 : m (Str.ofString "cells") = some (.ref lc)) (m2 : m (Str.ofString "tables") = some (.ref TT)) (m3 : m (Str.ofString "noughts") = some (.ref NO))
   (hlc : (lc, listOf cits cn) ∈ news) (hci : IntsAre cits.toList cs) (hcl : cs.length = 12) (hT : (TT, listOf tits kt) ∈ news) (hrt : tits.toList = rs.map fun r => Value.ref r.x) (h8 : rs.length = 8) (hz : (NO, listOf zits kz) ∈ news) (hzi : IntsAre zits.toList [0, 0, 0, 0, 0, 0, 0, 0])
   (hB : Tables w news rs pss) (hlen : ∀ x < 8, ((pss x).length : Int) = lenI (bOf cs) 12 x)
   (hQ : ∀ h' t' m' n', Fr h₀ L h' m' → News h₀ L h' n' → Q (.ret (.bool true)) {s with heap := h', toks := t'}) :
   wpAny (model pg w) A (execs (lawBody.drop 10) (envOfC (Str.ofString "law") lawScope L fa cd)) Q E s := by
  revert S
  conv in List.drop 10 lawBody => whnf
  conv in (occs := *) lawScope => all_goals whnf
  try dsimp only
  intro S
  obtain ⟨KX, T, B', F, N, hA, hf, hke, hroom, hh⟩ := S
  rw [← overA_eq (l := [(Str.ofString "cells", .ref lc), (Str.ofString "tables", .ref TT), (Str.ofString "noughts", .ref NO)]) (M := m) (by simp only [List.forall_mem_cons]; exact ⟨m1, m2, m3, fun _ h => nomatch h⟩)] at F
  simp only [overA] at F
  obtain ⟨c0, c1, c2, c3, c4, c5, c6, c7, c8, c9, c10, c11, rfl⟩ := list12 hcl
  obtain ⟨cs, hcs⟩ : ∃ cs, cs = [c0, c1, c2, c3, c4, c5, c6, c7, c8, c9, c10, c11] := ⟨_, rfl⟩
  rw [← hcs] at hci hcl hlen
  k_steps
  refine hold_elim ?_
  refine' Assign_own (fun i zs n => zs = (cs.take i).map fun c => Value.bool (decide (c.fmod 12 < 6))) ?F1 rfl ?hsw1 ?hclos1 ?hcell1 rfl ?hnames1 rfl rfl rfl ?src1 ?hfs1
  case F1 => k_asm
  case hsw1 => with_unfolding_all rfl
  case hclos1 => with_unfolding_all rfl
  case hcell1 => decide
  case hnames1 => decide
  case hfs1 => intro _; with_unfolding_all rfl
  case src1 =>
    k_steps
    refine hold_elim ?_
    refine' src_list (its := cits) (n := cn) ?hh2 ?F2 ?N2 hlc ?hs2 ?Q2
    case hh2 => exact hh
    case F2 => k_asm
    case N2 => k_asm
    case hs2 => rw [sizeLine_eq]; have := IntsAre.length hci; rw [Array.length_toList] at this; omega
    case Q2 =>
      intro I fp wr P St h₈ O hP
      refine ⟨I, fp, wr, _, P, St, h₈, _, _, rfl, rfl, O, rfl, ?_, ?_⟩
      · intro C i' v zs n₁ n₂ h tk m₃ E' hi' hPv hJ hz sub sub2 F N hn hm hC
        have hv := hP _ _ hPv
        rw [← Array.getElem?_toList] at hv
        obtain ⟨c, t, rfl, hc⟩ := ints_to hci hv
        refine lt6_elt rfl rfl hn hm ?_
        intro tk
        refine ⟨_, _, [], rfl, F, N, (fun q hq => nomatch hq), ?_⟩
        show zs ++ [_] = (cs.take (i' + 1)).map _
        rw [List.take_add_one, hc, List.map_append, hJ]
        rfl
      · intro D zs k n₁ h' tk F' N' ne sub hJ hzl
        have hz12 : cits.size = 12 := by have := IntsAre.length hci; rw [Array.length_toList] at this; omega
        have hts : tits.size = 8 := by rw [← Array.length_toList, hrt, List.length_map, h8]
        rw [hz12, List.take_of_length_le (by omega)] at hJ
        rw [hcs] at hJ
        simp only [List.map_cons, List.map_nil] at hJ
        subst hJ
        have hT := sub _ hT
        have hz := sub _ hz
        replace hB := hB.mono sub
        k_steps
        refine hold_elim ?_
        refine' Assign_own (fun i zs n => IntsAre zs ((List.range i).map fun x => ((pss x).length : Int))) ?F5 rfl ?hsw5 ?hclos5 ?hcell5 rfl ?hnames5 rfl rfl rfl ?src5 ?hfs5
        case F5 => k_asm
        case hsw5 => with_unfolding_all rfl
        case hclos5 => with_unfolding_all rfl
        case hcell5 => decide
        case hnames5 => decide
        case hfs5 => intro _; with_unfolding_all rfl
        case src5 =>
          k_steps
          refine hold_elim ?_
          refine' src_list (its := tits) (n := kt) ?hhb5 ?Fb5 ?Nb5 ?hTb5 ?hsb5 ?Qb5
          case hhb5 => exact hh
          case Fb5 => k_asm
          case Nb5 => k_asm
          case hTb5 => walk_at "kin"
          case hsb5 => rw [sizeLine_eq, hts]; decide
          case Qb5 =>
            intro I fp wr P St h₈ O hP
            refine ⟨I, fp, wr, _, P, St, h₈, _, _, rfl, rfl, O, .nil, ?_, ?_⟩
            · exact len_elem KX T B' hA hf hke (by omega) hh (hB.mono fun q hq => by walk_at "kin") hrt hP rfl rfl (fun _ => rfl) (fun _ => rfl) (fun _ => rfl)
            · intro D5 z5 k5 n5 h' tk F' N' ne5 sub5 hJ5 hz5
              rw [hts, lens_eq hlen] at hJ5
              have hz := sub5 _ (by walk_at "kin" : (NO, listOf zits kz) ∈ _)
              have hLd := sub5 _ (List.Mem.head _)
              have hT := sub5 _ (by walk_at "kin" : (TT, listOf tits kt) ∈ _)
              have hB := Tables.mono hB (n' := n5) fun q hq => sub5 _ (by walk_at "kin")
              k_steps
              refine hold_elim ?_
              refine' Assign_own (fun i zs n => IntsAre zs ((List.range i).map fun x => ((pss x).length : Int))) ?F6 rfl ?hsw6 ?hclos6 ?hcell6 rfl ?hnames6 rfl rfl rfl ?src6 ?hfs6
              case F6 => k_asm
              case hsw6 => with_unfolding_all rfl
              case hclos6 => with_unfolding_all rfl
              case hcell6 => decide
              case hnames6 => decide
              case hfs6 => intro _; with_unfolding_all rfl
              case src6 =>
                k_steps
                refine hold_elim ?_
                refine' src_list (its := tits) (n := kt) ?hhb6 ?Fb6 ?Nb6 ?hTb6 ?hsb6 ?Qb6
                case hhb6 => exact hh
                case Fb6 => k_asm
                case Nb6 => k_asm
                case hTb6 => walk_at "kin"
                case hsb6 => rw [sizeLine_eq, hts]; decide
                case Qb6 =>
                  intro I fp wr P St h₈ O hP
                  refine ⟨I, fp, wr, _, P, St, h₈, _, _, rfl, rfl, O, .nil, ?_, ?_⟩
                  · exact len_elem KX T B' hA hf hke (by omega) hh (hB.mono fun q hq => by walk_at "kin") hrt hP rfl rfl (fun _ => rfl) (fun _ => rfl) (fun _ => rfl)
                  · intro D6 z6 k6 n6 h' tk F' N' ne6 sub6 hJ6 hz6
                    rw [hts, lens_eq hlen] at hJ6
                    have hT := sub6 _ (by walk_at "kin" : (TT, listOf tits kt) ∈ _)
                    have hB := Tables.mono hB (n' := n6) fun q hq => sub6 _ (by walk_at "kin")
                    have hu64 : A.units + 64 < cLine := by omega
                    have hL5 := sub6 _ (by walk_at "kin" : (D5, listOf z5.toArray k5) ∈ _)
                    have hLd := sub6 _ (List.mem_cons_of_mem _ hLd)
                    have hz := sub6 _ (by walk_at "kin" : (NO, listOf zits kz) ∈ _)
                    k_steps
                    refine hold_elim ?_
                    refine eq_own N' (by walk_at "kin") (by walk_at "kin") hJ5 hJ6 hu64 rfl ?_
                    k_steps
                    refine hold_elim ?_
                    refine' read_spec ?Sr ?hlr hJ5 rfl ?hr
                    case Sr => exact ⟨by k_asm, by k_asm, by k_asm, by k_asm, by k_asm, hA, hf, hke, by omega, hh⟩
                    case hlr => walk_at "kin"
                    case hr =>
                      intro T7 D7 E7 a7 k7 j7 h' t' n7 F' N' sub7 hT7 hD7 hE7 hJ7
                      rw [read_tells _ fun i _ => bOf_01 cs i] at hD7 hJ7
                      simp only [bOf_eq] at hD7
                      rw [hcs] at hD7
                      simp only [List.map_cons, List.map_nil, List.getD_cons_zero, List.getD_cons_succ] at hD7
                      have hLd := sub7 _ (by walk_at "kin" : (_, listOf [Value.bool (decide (c0.fmod 12 < 6)), _, _, _, _, _, _, _, _, _, _, _].toArray _) ∈ _)
                      have hz := sub7 _ (by walk_at "kin" : (NO, listOf zits kz) ∈ _)
                      clear sub7
                      k_steps
                      refine hold_elim ?_
                      rename News _ _ _ (_ :: _ :: n7) => N9
                      refine' eq_tup_alike (d := 1) N9 (by walk_at "kin") (List.Mem.head _) ?_ hu64 (by decide) ?_
                      · exact .cons (Alike.list (by walk_at "kin") (List.mem_cons_of_mem _ (List.Mem.head _)) alike_refl) (.cons (Alike.list (by walk_at "kin") (by walk_at "kin") (alike_ints hJ7 hzi)) .nil)
                      k_steps
                      exact hQ _ _ _ _ (by assumption) (by assumption)
end
end
section
theorem kw43 : True := by
  w_top off
  k_with_none
  k_with "k_room" => first | ((try simp only [depth_under_make, depth_under_kw, depth_in1, depth_deeper, depth_caller]); omega) | decide
  k_with "code_def" => (refine' code_def ?k1w2 ?k2w2 ?k3w2 ?k4w2 ?k5w2 ?kAw2 ?kFw2 ?kKw2 ?k6w2 ?k7w2 ?k8w2 ?k9w2 ?kBw2 ?_ ?c2w2 ?c3w2 ?c4w2 ?c5w2; (case k1w2 => k_asm); (case k2w2 => k_asm); (case k3w2 => k_asm); (case k4w2 => k_asm); (case k5w2 => k_asm); (case kAw2 => assumption); (case kFw2 => assumption); (case kKw2 => assumption);  (case k6w2 => k_is); (case k7w2 => k_is); (case k8w2 => k_room); (case k9w2 => first | exact BindsTo.of_eq rfl | exact binds_K (by k_in) rfl (by k_is) rfl rfl rfl | fail "k_enter: no rule for these arguments"); (case c5w2 => decide); (case kBw2 => exact locs rfl); (case c2w2 => exact rfl); (case c3w2 => exact rfl); (case c4w2 => exact rfl))
  k_with "code_defC" => (refine' code_defC ?k1w3 ?k2w3 ?k3w3 ?k4w3 ?k5w3 ?kAw3 ?kFw3 ?kKw3 ?k6w3 ?k7w3 ?k8w3 ?k9w3 ?kBw3 ?kDw3 ?_ ?c2w3 ?c3w3 ?c4w3; (case k1w3 => k_asm); (case k2w3 => k_asm); (case k3w3 => k_asm); (case k4w3 => k_asm); (case k5w3 => k_asm); (case kAw3 => assumption); (case kFw3 => assumption); (case kKw3 => assumption); (case k6w3 => k_is); (case k7w3 => k_is); (case k8w3 => k_room); (case k9w3 => first | exact BindsTo.of_eq rfl | exact binds_K (by k_in) rfl (by k_is) rfl rfl rfl | fail "k_enter: no rule for these arguments"); (case kBw3 => exact rfl); (case kDw3 => decide +kernel); (case c2w3 => exact rfl); (case c3w3 => exact rfl); (case c4w3 => exact rfl))
  k_with "k_mem" => first | assumption | exact List.Mem.head _ | (refine' List.Mem.tail _ ?_; k_mem)
  k_with "k_all" => exact all_ne_of_lt (by assumption) (by first | exact Nat.le_refl _ | exact Nat.le_succ _ | omega)
  k_with "call builtin:str.lower" => (refine PyProof.Rows.SCL.lower (by omega) ?_; intro _)
  k_with "eval ListComp" => refine hold_intro ?_
  k_with "eval Slice none none none" => (refine slice_K (by assumption) (by assumption) ?_; intro _ _ _ _; (try k_sweep))
  k_with "setItem ref ref ref" => refine hold_intro ?_
  k_with "exec Assign cons ListComp" => ((with_reducible show wpAny _ _ (exec (Stmt.Assign [Expr.Subscript _ _ _] _ _) _) _ _ _); refine wpAny_Assign_Subscript ?_)
  k_with "call builtin:len" => (refine' len_L ?Nw11 ?hlw11 ?hsw11 ?_; (case Nw11 => k_asm); (case hlw11 => k_mem); (case hsw11 => omega); intro _ _)
  k_with "subscriptTail Name Slice ref ref" => ((with_reducible show wpAny _ _ (subscriptTail _ _ (Value.ref _) (Value.ref _)) _ _ _); refine' copy_L ?Fw12 ?Nw12 ?hlw12 ?hsw12 ?hzw12 ?_ ?hew12; (case Fw12 => k_asm); (case Nw12 => k_asm); (case hlw12 => k_mem); (case hsw12 => exact List.Mem.head _); (case hzw12 => rw [sizeLine_eq]; omega); (case hew12 => with_unfolding_all rfl); intro _ _ _ _ _; (try k_sweep))
  k_with "kp_more" => (refine' kp_more ?k1w13 ?k2w13 ?k3w13 ?k4w13 ?k5w13 ?kAw13 ?kFw13 ?kKw13 ?k6w13 ?k7w13 ?k8w13 ?kXw13 ?kMw13 ?kNw13 ?kDw13 ?kRw13 ?kPw13 ?kTw13 ?kBw13 ?_ ?c2w13 ?c3w13 ?c4w13 ?c5w13; (case kAw13 => assumption); (case kFw13 => assumption); (case kKw13 => assumption); (case k1w13 => k_asm); (case k2w13 => k_asm); (case k3w13 => k_asm); (case k4w13 => k_asm); (case k5w13 => k_asm); (case k6w13 => k_is); (case k7w13 => k_is); (case k8w13 => k_room); (case kXw13 => kp_lit); (case kMw13 => exact rfl); (case kNw13 => exact rfl); (case kDw13 => kp_flats); (case kRw13 => exact rfl); (case kPw13 => exact rfl); (case kTw13 => exact fun _ => rfl); (case kBw13 => exact fun _ => locs rfl); (case c5w13 => decide); (case c2w13 => exact rfl); (case c3w13 => exact rfl); (case c4w13 => exact rfl))
  k_with "exec For Tuple Name" => refine hold_intro ?_
  k_with "exec For Tuple Call" => refine hold_intro ?_
  k_with "exec For Tuple Call cons nil" => refine hold_intro ?_
  k_with "exec For Tuple Name cons nil" => refine hold_intro ?_
  k_with "call builtin:list.append" => (refine' append_L ?Fw18 ?Nw18 ?hlw18 ?_ ?hzw18; (case Fw18 => k_asm); (case Nw18 => k_asm); (case hlw18 => k_mem); (case hzw18 => (rw [sizeLine_eq]; omega)); intro _ _ _)
  k_with "mk_sit" => (refine' Sit.mk ?KXw19 ?Tw19 ?Bw19 ?Fw19 ?Nw19 ?hAw19 ?hfw19 ?hkew19 ?hroomw19 ?hhw19; (case KXw19 => k_asm); (case Tw19 => k_asm); (case Bw19 => k_asm); (case Fw19 => k_asm); (case Nw19 => k_asm); (case hAw19 => first | with_reducible assumption | exact Around.frames_deeper (Below.stack (by with_reducible assumption)) | rfl); (case hfw19 => first | with_reducible assumption | rfl); (case hkew19 => first | with_reducible assumption | rfl); (case hroomw19 => k_room); (case hhw19 => first | with_reducible assumption | exact handled_deeper (by with_reducible assumption) | assumption | rfl))
  k_with "call ref" => ((with_reducible show wpAny _ _ (call (Value.ref 83) [_, Value.str _ _] (List.zip _ [Value.bool true])) _ _ _); k_dflt (refine' conv_name ?Sw20 ?kaw20 ?kbw20 ?_; (case Sw20 => walk_at "mk_sit"); (case kaw20 => k_asm); (case kbw20 => k_asm); k_whole); intro _ _ _ _)
  k_with "call ref" => ((with_reducible show wpAny _ _ (call (Value.ref 83) [_, Value.str _ _] (List.zip _ [Value.bool false])) _ _ _); k_dflt (refine' conv_val ?Sw21 ?kaw21 ?kbw21 ?_; (case Sw21 => walk_at "mk_sit"); (case kaw21 => k_asm); (case kbw21 => k_asm); k_whole); intro _ _ _ _)
  k_with "box" => first | with_reducible assumption | exact Box.tail (by with_reducible assumption) | exact Box.tail (Box.tail (by with_reducible assumption)) | exact Box.tail (Box.tail (Box.tail (by with_reducible assumption))) | exact Box.tail (Box.tail (Box.tail (Box.tail (by with_reducible assumption))))
  k_with "k_mem" => first | with_reducible assumption | exact Box.hx (by with_reducible assumption) | exact Box.hd (by with_reducible assumption) | exact Box.hl (by with_reducible assumption) | exact List.Mem.head _ | (refine' List.Mem.tail _ ?_; k_mem) | (refine' Kept.mem (by with_reducible assumption) ?_ ?_; (k_mem); (first | with_reducible assumption | exact Ne.symm (by with_reducible assumption)))
  k_with "call ref" => ((with_reducible show wpAny _ _ (call (Value.ref 102) [_, Value.str _ _] _) _ _ _); k_dflt (refine' box_del ?Sw24 ?Bw24 ?kaw24 ?kbw24 ?_; (case Sw24 => walk_at "mk_sit"); (case Bw24 => walk_at "box"); (case kaw24 => walk_at "side"); (case kbw24 => walk_at "side"); k_whole); intro _ _ _ _ _ _ _ _ _)
  k_with "call ref" => ((with_reducible show wpAny _ _ (call (Value.ref 123) [_, Value.str _ _] _) _ _ _); k_dflt (refine' box_get ?Sw25 ?Bw25 ?kaw25 ?kbw25 ?_; (case Sw25 => walk_at "mk_sit"); (case Bw25 => walk_at "box"); (case kaw25 => walk_at "side"); (case kbw25 => walk_at "side"); k_whole); intro _ _ _ _ _ _ _ _ _)
  k_with "call ref" => ((with_reducible show wpAny _ _ (call (Value.ref 181) [_, Value.str _ _, Value.none] _) _ _ _); k_dflt (refine' box_none ?Sw26 ?Bw26 ?kaw26 ?kbw26 ?kcw26 ?_; (case Sw26 => walk_at "mk_sit"); (case Bw26 => walk_at "box"); (case kaw26 => walk_at "side"); (case kbw26 => walk_at "side"); (case kcw26 => walk_at "side"); k_whole); intro _ _ _ _ _ _ _ _ _ _)
  k_with "call ref" => ((with_reducible show wpAny _ _ (call (Value.ref 181) [_, Value.str _ _, Value.str _ _] _) _ _ _); k_dflt (refine' box_str ?Sw27 ?Bw27 ?kaw27 ?kbw27 ?kcw27 ?kdw27 ?kew27 ?_; (case Sw27 => walk_at "mk_sit"); (case Bw27 => walk_at "box"); (case kaw27 => walk_at "side"); (case kbw27 => walk_at "side"); (case kcw27 => walk_at "side"); (case kdw27 => walk_at "side"); (case kew27 => walk_at "side"); k_whole); intro _ _ _ _ _ _ _ _ _ _)
  k_with "call ref" => ((show wpAny _ _ (call (Value.ref 148) [Value.ref _]) _ _ _); k_dflt (refine' box_items ?Sw28 ?Bw28 ?_; (case Sw28 => walk_at "mk_sit"); (case Bw28 => walk_at "box"); k_whole); intro _ _ _ _ _ _)
  k_with "side" => first | with_reducible assumption | decide | omega
  k_with "call builtin:len" => (k_dflt (refine' box_len ?Sw30 ?Bw30 ?_; (case Sw30 => walk_at "mk_sit"); (case Bw30 => walk_at "box"); k_whole); intro _ _ _ _ _)
  k_with "call builtin:list.append" => (refine' append_K ?Fw31 ?Nw31 ?hlw31 ?hzw31 ?_; (case Fw31 => k_asm); (case Nw31 => k_asm); (case hlw31 => k_mem); (case hzw31 => (rw [sizeLine_eq]; first | omega | decide)); intro _ _ _ _ _ _)
  k_with "call builtin:list.append" => (refine' box_tell ?Fw32 ?Nw32 ?Bw32 ?htw32 ?hnew32 ?hsw32 ?_; (case Fw32 => k_asm); (case Nw32 => k_asm); (case Bw32 => walk_at "box"); (case htw32 => k_mem); (case hnew32 => assumption); (case hsw32 => walk_at "side"); intro _ _ _ _ _ _ _)
  k_with "call builtin:list.append" => (refine' box_append ?Fw33 ?Nw33 ?Bw33 ?htw33 ?hsw33 ?hzw33 ?_; (case Fw33 => k_asm); (case Nw33 => k_asm); (case Bw33 => walk_at "box"); (case htw33 => exact List.Mem.head _); (case hsw33 => walk_at "side"); (case hzw33 => walk_at "side"); intro _ _ _ _ _ _)
  k_with "exec For Name Call" => refine hold_intro ?_
  k_with "exec For Name Name" => refine hold_intro ?_
  k_with "exec For Name Name cons nil" => refine hold_intro ?_
  k_with "exec For Name Call cons nil" => refine hold_intro ?_
  k_with "kept2" => first | assumption | exact Kept2.start | (refine' Kept2.tail ?_; walk_at "kept2") | (refine' Kept2.left ?kzw38 ?kww38; (case kww38 => assumption); (case kzw38 => walk_at "kept2")) | (refine' Kept2.right ?kzw38 ?kww38; (case kww38 => assumption); (case kzw38 => walk_at "kept2")) | (refine' Kept2.both ?kzw38 ?kww38; (case kww38 => with_reducible assumption); (case kzw38 => walk_at "kept2"))
  k_with "agree" => first | assumption | exact Agree.start | (refine' Agree.set ?_ ?kww39; (case kww39 => decide); walk_at "agree")
  k_with "delItem ref str" => (k_dflt (refine' delItem_own ?Fw40 ?Xw40 ?Iw40 ?hQw40 ?hSw40 ?hFw40 ?_; (case Fw40 => k_asm); (case Xw40 => k_asm); (case Iw40 => k_inst); (case hSw40 => k_is); (case hFw40 => k_is); (case hQw40 => k_is); k_whole))
  k_with "call builtin:len" => (refine' len_L ?Nw41 ?hlw41 ?hsw41 ?_; (case hlw41 => k_mem); (case hsw41 => with_reducible assumption); (case Nw41 => k_asm); intro _ _)
  trivial
/-- the word of the law's outer loop -/
def LF (w : World) (rs : List Rec) (b : Nat → Int) (M : Str → Option Value) (ks : List (Addr × Obj)) : Nat → (Str → Option Value) → List (Addr × Obj) → Prop := fun i m' n' =>
  Agree [Str.ofString "deed", Str.ofString "cell", Str.ofString "sizes", Str.ofString "text", Str.ofString "x", Str.ofString "words"] M m' ∧ (∀ p ∈ ks, p ∈ n') ∧ ∃ pss, Tables w n' rs pss ∧ ∀ x < 8, ((pss x).length : Int) = lenI b i x ∧ ∀ q ∈ pss x, okName i q.1
theorem LF.mono {w : World} {rs : List Rec} {b : Nat → Int} {M : Str → Option Value} {ks n₀ : List (Addr × Obj)} (hks : ∀ p ∈ ks, p ∈ n₀) (i : Nat) (m : Str → Option Value) (n n' : List (Addr × Obj)) (I : Addr) (h1 : ∀ p ∈ n₀, p.1 ≠ I) (h2 : ∀ p ∈ n, isIter p.2 = false → p.1 ≠ I) (h3 : LF w rs b M ks i m n) (h4 : ∀ p ∈ n, p.1 ≠ I → p ∈ n') : LF w rs b M ks i m n' := by
  obtain ⟨hA, hK, pss, T, h⟩ := h3
  exact ⟨hA, fun p hp => h4 p (hK p hp) (h1 p (hks p hp)), pss, T.noIter fun p hp hi => h4 p hp (h2 p hp hi), h⟩
/-- the word of its inner loop -/
def LG (w : World) (rs : List Rec) (b : Nat → Int) (i : Nat) (os : List Int) (M : Str → Option Value) (ks : List (Addr × Obj)) : Nat → (Str → Option Value) → List (Addr × Obj) → Prop := fun j m' n' =>
  Agree [Str.ofString "x", Str.ofString "words"] M m' ∧ (∀ p ∈ ks, p ∈ n') ∧ ∃ pss, Tables w n' rs pss ∧ ∀ x < 8, ((pss x).length : Int) = lenI b i x + (if ((x : Nat) : Int) ∈ os.take j then b i else 0) ∧ (∀ q ∈ pss x, okName (i + 1) q.1) ∧ (((x : Nat) : Int) ∉ os.take j → ∀ q ∈ pss x, okName i q.1)
theorem LG.mono {w : World} {rs : List Rec} {b : Nat → Int} {i : Nat} {os : List Int} {M : Str → Option Value} {ks n₀ : List (Addr × Obj)} (hks : ∀ p ∈ ks, p ∈ n₀) (j : Nat) (m : Str → Option Value) (n n' : List (Addr × Obj)) (I : Addr) (h1 : ∀ p ∈ n₀, p.1 ≠ I) (h2 : ∀ p ∈ n, isIter p.2 = false → p.1 ≠ I) (h3 : LG w rs b i os M ks j m n) (h4 : ∀ p ∈ n, p.1 ≠ I → p ∈ n') : LG w rs b i os M ks j m n' := by
  obtain ⟨hA, hK, pss, T, h⟩ := h3
  exact ⟨hA, fun p hp => h4 p (hK p hp) (h1 p (hks p hp)), pss, T.noIter fun p hp hi => h4 p hp (h2 p hp hi), h⟩
theorem scales_on : ∀ i < 12, ∀ q, scalesL[i]? = some q → onL i = q.1 ∧ q.1.Nodup ∧ ∀ x ∈ q.1, 0 ≤ x ∧ x < 8 := by decide
theorem lenI_le (cs : List Int) : ∀ i x, 0 ≤ lenI (bOf cs) i x ∧ lenI (bOf cs) i x ≤ i
  | 0, _ => ⟨Int.le_refl _, Int.le_refl _⟩
  | i + 1, x => by
    have h := lenI_le cs i x
    have h2 := bOf_01 cs i
    unfold lenI
    split <;> omega
def okText (y : Str) : Prop := y ∈ [Str.ofString "x", Str.ofString "", Str.ofString "x\ty", Str.ofString "via"]
theorem text_of {t0 t1 t2 t3 : Tok} {v : Value} (h : v ∈ [Value.str (Str.ofString "x") t0, Value.str (Str.ofString "") t1, Value.str (Str.ofString "x\ty") t2, Value.str (Str.ofString "via") t3]) : ∃ y t, v = .str y t ∧ okText y := by
  rcases List.mem_cons.mp h with rfl | h
  · exact ⟨_, _, rfl, .head _⟩
  · rcases List.mem_cons.mp h with rfl | h
    · exact ⟨_, _, rfl, .tail _ (.head _)⟩
    · rcases List.mem_cons.mp h with rfl | h
      · exact ⟨_, _, rfl, .tail _ (.tail _ (.head _))⟩
      · rcases List.mem_cons.mp h with rfl | h
        · exact ⟨_, _, rfl, .tail _ (.tail _ (.tail _ (.head _)))⟩
        · cases h
theorem names_facts : ∀ i : Nat, i < 12 → ∀ a, namesL[i]? = some a → ∀ f ∈ [a, Txt.upper a], f.length ≤ 1000 ∧ ctlIn isCtlN f.cps = false ∧ ctlIn isCtlN (Txt.lower f).cps = false ∧ Txt.lower f = a ∧ ctlIn isCtlN (Txt.lower (f ++ ⟨#[(0 + (i : Int)).toNat]⟩)).cps = true ∧ (f ++ ⟨#[(0 + (i : Int)).toNat]⟩).length ≤ 1000 := by decide +kernel
theorem texts_facts : ∀ i : Nat, i < 12 → ∀ y ∈ [Str.ofString "x", Str.ofString "", Str.ofString "x\ty", Str.ofString "via"], y.length ≤ 1000 ∧ ctlIn isCtlV y.cps = false ∧ ctlIn isCtlV (y ++ ⟨#[(20 + (0 + (i : Int))).toNat]⟩).cps = true ∧ ctlIn isCtlV (Str.ofString "\x7f" ++ y).cps = true ∧ (y ++ ⟨#[(20 + (0 + (i : Int))).toNat]⟩).length ≤ 1000 ∧ (Str.ofString "\x7f" ++ y).length ≤ 1000 := by decide +kernel
theorem deeds_facts : ∀ i : Nat, i < 12 → (Str.ofString (toString (0 + ((i : Nat) : Int)))).length ≤ 100000 := by decide +kernel
theorem txts_of {i : Nat} {a y f s : Str} (hi : i < 12) (ha : namesL[i]? = some a) (hy : okText y) (hf : f = a ∨ f = Txt.upper a) (hs : s = a ∨ s = Txt.upper a) : Txts (0 + (i : Int)) y f s ∧ Txt.lower f = a := by
  have m : ∀ {g : Str}, g = a ∨ g = Txt.upper a → g ∈ [a, Txt.upper a] := fun h => h.elim (fun h => h ▸ .head _) fun h => h ▸ .tail _ (.head _)
  obtain ⟨f1, f2, f3, f4, f5, f6⟩ := names_facts i hi a ha f (m hf)
  obtain ⟨s1, s2, s3, s4, -, -⟩ := names_facts i hi a ha s (m hs)
  obtain ⟨y1, y2, y3, y4, y5, y6⟩ := texts_facts i hi y hy
  exact ⟨⟨f1, f2, f3, s1, s2, s3, by rw [s4, f4], y1, y2, by omega, by omega, y3, y4, f5, y5, y6, f6, deeds_facts i hi⟩, f4⟩
theorem nodup_at {x : Int} {os : List Int} {j : Nat} (h : os.Nodup) (e : os[j]? = some x) : x ∉ os.take j := fun hm => by
  induction os generalizing j with
  | nil => simp at e
  | cons a r ih =>
    cases j with
    | zero => cases hm
    | succ j =>
      obtain ⟨h1, h2⟩ := List.nodup_cons.mp h
      rw [List.take_succ_cons] at hm
      rw [List.getElem?_cons_succ] at e
      rcases List.mem_cons.mp hm with rfl | hm
      · exact h1 (List.mem_of_getElem? e)
      · exact ih h2 e hm
theorem fill_step {cs : List Int} {i j X : Nat} {os : List Int} {a fy : Str} {c : Int} {pss : Nat → List (Str × Value)} {ps : List (Str × Value)} (hi : i < 12) (ha : namesL[i]? = some a) (hb : bOf cs i = ((laidOf ((cs.getD i 0).fmod 12) : Nat) : Int)) (hc : cs[i]? = some c) (hx : os[j]? = some ((X : Nat) : Int)) (hlow : Txt.lower fy = a) (D : Did (pss X) ps (laidOf (c.fmod 12)) (Txt.lower fy))
   (h : ∀ x < 8, ((pss x).length : Int) = lenI (bOf cs) i x + (if ((x : Nat) : Int) ∈ os.take j then bOf cs i else 0) ∧ (∀ q ∈ pss x, okName (i + 1) q.1) ∧ (((x : Nat) : Int) ∉ os.take j → ∀ q ∈ pss x, okName i q.1)) (hnot : ((X : Nat) : Int) ∉ os.take j) :
   ∀ x < 8, ((if x = X then ps else pss x).length : Int) = lenI (bOf cs) i x + (if ((x : Nat) : Int) ∈ os.take (j + 1) then bOf cs i else 0) ∧ (∀ q ∈ (if x = X then ps else pss x), okName (i + 1) q.1) ∧ (((x : Nat) : Int) ∉ os.take (j + 1) → ∀ q ∈ (if x = X then ps else pss x), okName i q.1) := by
  have hcg : cs.getD i 0 = c := by rw [List.getD_eq_getElem?_getD, hc]; rfl
  rw [hcg] at hb
  intro x hx8
  obtain ⟨h1, h2, h3⟩ := h x hx8
  have ht : os.take (j + 1) = os.take j ++ [((X : Nat) : Int)] := by rw [List.take_add_one, hx]; rfl
  rw [ht]
  by_cases e : x = X
  · subst e
    have hin : ((x : Nat) : Int) ∈ os.take j ++ [((x : Nat) : Int)] := List.mem_append_right _ (.head _)
    simp only [if_true]
    rw [if_pos hin]
    rw [if_neg hnot] at h1
    refine ⟨by rw [D.1, hb]; omega, fun q hq => ?_, fun hn => absurd hin hn⟩
    rcases D.2 q hq with h | h | h
    · exact h2 q h
    · exact okName.at_ ha (h.trans hlow)
    · exact .inr h
  · simp only [if_neg e]
    have hiff : ((x : Nat) : Int) ∈ os.take j ++ [((X : Nat) : Int)] ↔ ((x : Nat) : Int) ∈ os.take j := by
      rw [List.mem_append, List.mem_singleton]
      exact ⟨fun h => h.elim id fun h => absurd (Int.ofNat.inj h) e, .inl⟩
    simp only [hiff]
    exact ⟨h1, h2, h3⟩
theorem fmodr (a : Int) {n : Int} (h : 0 < n) : 0 ≤ a.fmod n ∧ a.fmod n < n := ⟨Int.fmod_nonneg_of_pos _ h, Int.fmod_lt_of_pos _ h⟩
theorem kw41 : True := by
  k_with "exec For Name Subscript" => refine hold_intro ?_
  k_with "exec For Name Subscript cons nil" => refine hold_intro ?_
  k_with "exec For Name Call" => refine hold_intro ?_
  k_with "exec For Name Call cons nil" => refine hold_intro ?_
  k_with "call ref" => ((with_reducible show wpAny _ _ (call (Value.ref 195) _) _ _ _); refine hold_intro ?_)
  k_with "call ref" => ((with_reducible show wpAny _ _ (call (Value.ref 202) _) _ _ _); refine hold_intro ?_)
  k_with "subscriptTail Name BinOp ref int" => ((with_reducible show wpAny _ _ (subscriptTail _ _ (Value.ref _) (Value.int _ _)) _ _ _); (refine' two_pick ?Nw180 ?hlw180 ?hbw180 ?_; (case Nw180 => k_asm); (case hlw180 => walk_at "kin"); (case hbw180 => with_reducible assumption); intro _ _ _))
  trivial
section
variable {w : World} {A A₀ : Around} {E : Value → Shared → Prop} {s : Shared} {h₀ : Heap} {L fa lc ln sc TT GG NO : Addr} {cd : Value} {m mg mb : Str → Option Value} {news : List (Addr × Obj)}
   {p : Program} {loose : List Str} {mean : ExcName → Option Value} {Q : Flow → Shared → Prop} {cits nits tits gits zits : Array Value} {cn nn kt kg kz : Nat} {cs : List Int} {rs : List Rec} {pss : Nat → List (Str × Value)}
local macro_rules | `(tactic| walk_at "pyIter ref") => `(tactic| refine hold_intro ?_)
theorem kw42 : True := by
  k_with "exec Assign cons ListComp" => refine hold_intro ?_
  k_with "compareOp Eq ref ref" => refine hold_intro ?_
  k_with "compareOp NotEq ref ref" => refine hold_intro ?_
  k_with "call ref" => ((with_reducible show wpAny _ _ (call (Value.ref 214) _) _ _ _); refine hold_intro ?_)
  k_with "agree" => first | with_reducible assumption | exact Agree.start | (refine' Agree.set ?_ ?kww185; (case kww185 => decide); walk_at "agree") | (refine' Agree.same ?_ ?kww185; (case kww185 => rfl); walk_at "agree")
  k_with "kin" => first | with_reducible assumption | exact List.Mem.head _ | (refine List.mem_cons_of_mem _ ?_; walk_at "kin")
  k_with "subscriptTail Name Name ref int" => ((with_reducible show wpAny _ _ (subscriptTail _ _ (Value.ref _) (Value.int _ _)) _ _ _); (refine' item_at ?Nw187 ?hlw187 ?hvw187 ?h0w187 ?hzw187 ?_; (case Nw187 => k_asm); (case hlw187 => walk_at "kin"); (case hvw187 => with_reducible assumption); (case h0w187 => with_reducible assumption); (case hzw187 => with_reducible assumption)))
  trivial
theorem law_fill (S : Sit w A A₀ h₀ h₀ (envOfC (Str.ofString "law") lawScope L fa cd) [] L m p loose mean mg mb news s.heap 100) (hu : A.units + 70 < cLine)
   (m1 : m (Str.ofString "cells") = some (.ref lc)) (m2 : m (Str.ofString "tables") = some (.ref TT)) (m3 : m (Str.ofString "noughts") = some (.ref NO)) (m4 : m (Str.ofString "names") = some (.ref ln)) (m5 : m (Str.ofString "scales") = some (.ref sc)) (m6 : m (Str.ofString "lists") = some (.ref GG))
   {ks : List (Addr × Obj)} (hks : ∀ p ∈ ks, p ∈ news) (hkl : ∀ p ∈ ks, ∀ r ∈ rs, p.1 ≠ r.l)
   (hlc : (lc, listOf cits cn) ∈ ks) (hci : IntsAre cits.toList cs) (hcl : cs.length = 12) (hln : (ln, listOf nits nn) ∈ ks) (hns : StrsAre nits.toList namesL) (hsc : ScalesAt ks sc)
   (hT : (TT, listOf tits kt) ∈ ks) (hrt : tits.toList = rs.map fun r => Value.ref r.x) (hG : (GG, listOf gits kg) ∈ ks) (hrg : gits.toList = rs.map fun r => Value.ref r.l) (h8 : rs.length = 8) (hD : LApart rs) (hz : (NO, listOf zits kz) ∈ ks) (hzi : IntsAre zits.toList [0, 0, 0, 0, 0, 0, 0, 0])
   (hB : Tables w news rs fun _ => [])
   (hQ : ∀ h' t' m' n', Fr h₀ L h' m' → News h₀ L h' n' → Q (.ret (.bool true)) {s with heap := h', toks := t'}) :
   wpAny (model pg w) A (execs (lawBody.drop 9) (envOfC (Str.ofString "law") lawScope L fa cd)) Q E s := by
  revert S
  conv in List.drop 9 lawBody => whnf
  conv in (occs := *) lawScope => all_goals whnf
  try dsimp only
  intro S
  obtain ⟨KX, T, B', F, N, hA, hf, hke, hroom, hh⟩ := S
  rw [← overA_eq (l := [(Str.ofString "cells", .ref lc), (Str.ofString "tables", .ref TT), (Str.ofString "noughts", .ref NO), (Str.ofString "names", .ref ln), (Str.ofString "scales", .ref sc), (Str.ofString "lists", .ref GG)]) (M := m) (by simp only [List.forall_mem_cons]; exact ⟨m1, m2, m3, m4, m5, m6, fun _ h => nomatch h⟩)] at F
  obtain ⟨its, ki, hsm, hsP⟩ := hsc
  k_steps
  refine hold_elim ?_
  refine wpAny_For ?_
  k_steps
  refine hold_elim ?_
  rename IsRange _ _ _ _ _ _ _ _ => hr
  refine' for_range (n := 12) (LF w rs (bOf cs) (overA [(Str.ofString "cells", .ref lc), (Str.ofString "tables", .ref TT), (Str.ofString "noughts", .ref NO), (Str.ofString "names", .ref ln), (Str.ofString "scales", .ref sc), (Str.ofString "lists", .ref GG)] m) ks) ?hh1 ?F1 ?N1 hr ?hsm1 ?hn1 ?ht1 ?hJ1 ?j01 ?turn1 ?done1
  case hh1 => exact hh
  case F1 => k_asm
  case N1 => k_asm
  case hsm1 => decide
  case hn1 => decide
  case ht1 => exact fun _ _ => rfl
  case hJ1 => exact LF.mono hks
  case j01 => exact ⟨Agree.start, hks, _, hB, fun x hx => ⟨rfl, fun _ h => nomatch h⟩⟩
  case turn1 =>
    rintro i tv m₁ n₁ h₁ tk₁ it1 hi12 ⟨hA1, hK1, pss, hB1, hP1⟩ him1 hit1 F' N'
    obtain ⟨u, rfl⟩ : ∃ u, m₁ = overL _ u _ := ⟨_, hA1.over⟩
    simp only [overL, overA] at F'
    obtain ⟨c, hc⟩ : ∃ c, cs[i]? = some c := ⟨_, List.getElem?_eq_getElem (by omega)⟩
    have ei : (0 + (i : Int)).toNat = i := by omega
    have z0 : (0 : Int) ≤ 0 + (i : Int) := by omega
    have z1 : 0 + (i : Int) < 1000 := by omega
    obtain ⟨tc, ec⟩ := ints_at hci hc
    rw [← ei] at ec
    have hn12 : nits.toList.length = 12 := hns.length
    obtain ⟨v, hv⟩ : ∃ v, nits.toList[i]? = some v := ⟨_, List.getElem?_eq_getElem (by omega)⟩
    obtain ⟨a, ta, rfl, ha⟩ := strs_at hns i v hv
    rw [← ei] at hv
    have hs12 : its.toList.length = 12 := paired_len hsP
    obtain ⟨v, hsv⟩ : ∃ v, its.toList[i]? = some v := ⟨_, List.getElem?_eq_getElem (by omega)⟩
    obtain ⟨q, hq, t, o, oa, oc, tn, tw, rfl, g1, g2, g3⟩ := paired_at hsP i v hsv
    rw [← ei] at hsv
    have x1 := hK1 _ hlc
    have x2 := hK1 _ hln
    have x3 := hK1 _ hsm
    have x4 := hK1 _ g1
    have x5 := hK1 _ g2
    have hal : a.length ≤ 1000 := by
      have : ∀ a ∈ namesL, a.length ≤ 1000 := by decide +kernel
      exact this a (List.mem_of_getElem? ha)
    have b4 := fmodr (c.fdiv 12) (show (0 : Int) < 4 by decide)
    have N8 := N'
    refine assign_name F' N' rfl rfl ?_
    intro h₅ tk₅ F' N'
    k_steps
    rename_i SZ hz1 lS hz2 TX hz3 Fz Nz lX
    refine' pick_item (l := [Value.str (Str.ofString "x") _, Value.str (Str.ofString "") _, Value.str (Str.ofString "x\ty") _, Value.str (Str.ofString "via") _]) ?N ?hl b4 ?hB ?hf ?_
    case N => k_asm
    case hl => exact List.Mem.head _
    case hB => rfl
    case hf => exact (show 4 < 1000 by decide)
    intro v' hv'
    obtain ⟨y', t', e', ht'⟩ := text_of hv'
    subst e'
    k_steps
    refine hold_elim ?_
    refine wpAny_For ?_
    k_steps
    refine hold_elim ?_
    rename_i hz4 F9 N9
    obtain ⟨os, num, wt⟩ := q
    obtain ⟨son, snd, srg⟩ := scales_on i hi12 _ hq
    dsimp only at son snd srg g3
    obtain ⟨M2, AM2, FM2⟩ := fr_split (S := [Str.ofString "deed", Str.ofString "cell", Str.ofString "sizes", Str.ofString "text", Str.ofString "x", Str.ofString "words"]) (Mo := overA [(Str.ofString "cells", .ref lc), (Str.ofString "tables", .ref TT), (Str.ofString "noughts", .ref NO), (Str.ofString "names", .ref ln), (Str.ofString "scales", .ref sc), (Str.ofString "lists", .ref GG)] m) (l := [(Str.ofString "text", .str y' t'), (Str.ofString "sizes", .ref SZ), (Str.ofString "cell", .int c tc), (Str.ofString "deed", .int (0 + (i : Int)) tv), (Str.ofString "cells", .ref lc), (Str.ofString "tables", .ref TT), (Str.ofString "noughts", .ref NO), (Str.ofString "names", .ref ln), (Str.ofString "scales", .ref sc), (Str.ofString "lists", .ref GG)]) F9 (by walk_at "agree") (by simp only [List.forall_mem_cons]; exact ⟨rfl, rfl, rfl, rfl, rfl, rfl, rfl, rfl, rfl, rfl, fun _ h => nomatch h⟩)
    clear F9
    have hSl : ∀ r ∈ rs, SZ ≠ r.l := fun r hr => by
      obtain ⟨x, hx⟩ := List.mem_iff_getElem?.mp hr
      obtain ⟨_, _, B⟩ := hB1 x r hx
      exact Nat.ne_of_gt (lS _ B.hl)
    have hIl : ∀ r ∈ rs, it1.1 ≠ r.l := fun r hr => by
      obtain ⟨x, hx⟩ := List.mem_iff_getElem?.mp hr
      obtain ⟨_, _, B⟩ := hB1 x r hx
      exact iter_ne N8 him1 hit1 B.hl isIter_list
    obtain ⟨ks2, hks2⟩ : ∃ ks2, ks2 = it1 :: (SZ, listOf #[Value.str a ta, .str (Txt.upper a) (tk₅ + 1)] 0) :: ks := ⟨_, rfl⟩
    obtain ⟨n9, hn9, N9⟩ : ∃ n9, n9 = _ ∧ News h₀ L hz4 n9 := ⟨_, rfl, N9⟩
    have hkn2 : ∀ p ∈ ks2, p ∈ n9 := fun p hp => by
      rw [hks2] at hp
      rw [hn9]
      rcases List.mem_cons.mp hp with rfl | hp
      · exact .tail _ (.tail _ hit1)
      rcases List.mem_cons.mp hp with rfl | hp
      · exact .tail _ (.head _)
      · exact .tail _ (.tail _ (hK1 p hp))
    have hkl2 : ∀ p ∈ ks2, ∀ r ∈ rs, p.1 ≠ r.l := fun p hp => by
      rw [hks2] at hp
      rcases List.mem_cons.mp hp with rfl | hp
      · exact hIl
      rcases List.mem_cons.mp hp with rfl | hp
      · exact hSl
      · exact hkl p hp
    have hkk : ∀ p ∈ ks, p ∈ ks2 := fun p hp => by rw [hks2]; exact .tail _ (.tail _ hp)
    have hSk : (SZ, listOf #[Value.str a ta, .str (Txt.upper a) (tk₅ + 1)] 0) ∈ ks2 := by rw [hks2]; exact .tail _ (.head _)
    have hIk : it1 ∈ ks2 := by rw [hks2]; exact .head _
    refine' for_list (l := o) (its := oa) (n := oc) (LG w rs (bOf cs) i os (overA [(Str.ofString "text", .str y' t'), (Str.ofString "sizes", .ref SZ), (Str.ofString "cell", .int c tc), (Str.ofString "deed", .int (0 + (i : Int)) tv), (Str.ofString "cells", .ref lc), (Str.ofString "tables", .ref TT), (Str.ofString "noughts", .ref NO), (Str.ofString "names", .ref ln), (Str.ofString "scales", .ref sc), (Str.ofString "lists", .ref GG)] M2) ks2) ?hh2 ?F22 ?N22 ?hJ2 ?hl2 ?j02 ?turn2 ?done2
    case hh2 => exact hh
    case F22 => exact FM2
    case N22 => exact N9
    case hJ2 => exact LG.mono hkn2
    case hl2 => exact fun j m n' J => J.2.1 _ (hkk _ g2)
    case j02 => exact ⟨Agree.start, hkn2, pss, hB1.mono fun p hp => by rw [hn9]; exact .tail _ (.tail _ hp), fun x hx => ⟨by rw [(hP1 x hx).1, List.take_zero, if_neg (by simp), Int.add_zero], fun q hq => ((hP1 x hx).2 q hq).mono, fun _ => (hP1 x hx).2⟩⟩
    case turn2 =>
      rintro j v m₂ n₂ h₂ tk₂ it2 e ⟨hA2, hK2, pss2, hB2, hP2⟩ him2 hit2 F' N'
      obtain ⟨u2, rfl⟩ : ∃ u, m₂ = overL _ u _ := ⟨_, hA2.over⟩
      simp only [overL, overA] at F'
      rw [← Array.getElem?_toList] at e
      obtain ⟨x, tx, rfl, hx⟩ := ints_to g3 e
      obtain ⟨xa, xb⟩ := srg x (List.mem_of_getElem? hx)
      obtain ⟨X, rfl⟩ := Int.eq_ofNat_of_zero_le xa
      have hX8 : X < 8 := by omega
      obtain ⟨r, hr⟩ : ∃ r, rs[X]? = some r := ⟨_, List.getElem?_eq_getElem (by omega)⟩
      have eX : ((X : Nat) : Int).toNat = X := Int.toNat_natCast X
      have w1 : tits.toList[((X : Nat) : Int).toNat]? = some (.ref r.x) := by rw [eX, hrt, List.getElem?_map, hr]; rfl
      have w2 : gits.toList[((X : Nat) : Int).toNat]? = some (.ref r.l) := by rw [eX, hrg, List.getElem?_map, hr]; rfl
      have xb2 : ((X : Nat) : Int) < 1000 := by omega
      have w3 := hK2 _ (hkk _ hT)
      have w4 := hK2 _ (hkk _ hG)
      have w5 := hK2 _ hSk
      have b2 := fmodr (c.fdiv 48) (show (0 : Int) < 2 by decide)
      have b2' : 0 ≤ 1 - (c.fdiv 48).fmod 2 ∧ 1 - (c.fdiv 48).fmod 2 < 2 := by omega
      have N2 := N'
      refine assign_name F' N' rfl rfl ?_
      intro h₅ tk₅ F' N'
      k_steps
      refine hold_elim ?_
      rename_i fy ft fo sy st so
      obtain ⟨X9, hlow⟩ := txts_of hi12 ha ht' fo so
      obtain ⟨its2, k2, B2⟩ := hB2 X r hr
      have hb := fmodr c (show (0 : Int) < 12 by decide)
      have hnot : ((X : Nat) : Int) ∉ os.take j := nodup_at snd hx
      have hlen9 : (pss2 X).length < 900 := by
        have l1 := (hP2 X hX8).1
        have l2 := lenI_le cs i X
        rw [if_neg hnot] at l1
        omega
      have hno9 : ∀ q ∈ pss2 X, Txt.lower q.1 ≠ Txt.lower fy := fun q hq => by
        rw [hlow]
        exact okName.ne hi12 ha ((hP2 X hX8).2.2 hnot q hq)
      refine' deeds ?S9 B2 hlen9 (by omega) X9 hno9 hb.1 hb.2 ?_
      case S9 => exact ⟨KX, T, B', by k_asm, by k_asm, hA, hf, hke, by omega, hh⟩
      intro h' t' n3 its3 k3 ps3 tw3 F' N' K3 B3 D3
      k_steps
      refine hold_elim ?_
      refine' words_spec ?S8 hb.1 hb.2 z0 (by omega) ?_
      case S8 => exact ⟨KX, T, B', by k_asm, by k_asm, hA, hf, hke, by omega, hh⟩
      intro h' t' tw4 F' N'
      k_steps
      · rename ((_ != _) = true) => hbad
        rw [bne_self_eq_false] at hbad
        cases hbad
      · refine ⟨_, _, _, _, rfl, F', N', K3 _ hit2 (iter_ne N2 him2 hit2 B2.hl isIter_list), by walk_at "agree", fun p hp => K3 p (hK2 p hp) (hkl2 p hp r (List.mem_of_getElem? hr)), _, Tables.kept hB2 N2 hD hr K3 B3, ?_⟩
        exact fill_step hi12 ha (bOf_laid cs i) hc hx hlow D3 hP2 hnot
    case done2 =>
      rintro m₂ n₂ h₂ tk₂ ⟨hA2, hK2, pss2, hB2, hP2⟩ F' N'
      obtain ⟨u2, rfl⟩ : ∃ u, m₂ = overL _ u _ := ⟨_, hA2.over⟩
      simp only [overL, overA] at F'
      k_steps
      refine ⟨_, _, _, _, rfl, F', N', hK2 _ hIk, by walk_at "agree", fun p hp => hK2 _ (hkk p hp), pss2, hB2, fun x hx => ?_⟩
      obtain ⟨h1, h2, -⟩ := hP2 x hx
      have hsz : oa.size = os.length := by have := IntsAre.length g3; rw [Array.length_toList] at this; exact this
      rw [List.take_of_length_le (Nat.le_of_eq hsz.symm)] at h1
      refine ⟨?_, h2⟩
      show _ = lenI (bOf cs) i x + (if ((x : Nat) : Int) ∈ onL i then bOf cs i else 0)
      rw [son]
      exact h1
  case done1 =>
    rintro m₁ n₁ h₁ tk₁ ⟨hA1, hK1, pss, hB1, hP1⟩ F' N'
    obtain ⟨u, rfl⟩ : ∃ u, m₁ = overL _ u _ := ⟨_, hA1.over⟩
    try dsimp only
    refine' law_end ?S2 hu ?m12 ?m22 ?m32 (hK1 _ hlc) hci hcl (hK1 _ hT) hrt h8 (hK1 _ hz) hzi hB1 (fun x hx => (hP1 x hx).1) ?Q2
    case S2 => exact ⟨KX, T, B', F', N', hA, hf, hke, hroom, hh⟩
    case m12 => rfl
    case m22 => rfl
    case m32 => rfl
    case Q2 => exact fun h' t' m' n' F' N' => hQ h' t' m' n' F' N'
end
end
section
local macro_rules | `(tactic| walk_at "pad") => `(tactic| fail)
local macro_rules | `(tactic| walk_at "pad") => `(tactic| fail)
theorem kw44 : True := by
  w_top off
  k_with_none
  k_with "k_room" => first | ((try simp only [depth_under_make, depth_under_kw, depth_in1, depth_deeper, depth_caller]); omega) | decide
  k_with "code_def" => (refine' code_def ?k1w2 ?k2w2 ?k3w2 ?k4w2 ?k5w2 ?kAw2 ?kFw2 ?kKw2 ?k6w2 ?k7w2 ?k8w2 ?k9w2 ?kBw2 ?_ ?c2w2 ?c3w2 ?c4w2 ?c5w2; (case k1w2 => k_asm); (case k2w2 => k_asm); (case k3w2 => k_asm); (case k4w2 => k_asm); (case k5w2 => k_asm); (case kAw2 => assumption); (case kFw2 => assumption); (case kKw2 => assumption);  (case k6w2 => k_is); (case k7w2 => k_is); (case k8w2 => k_room); (case k9w2 => first | exact BindsTo.of_eq rfl | exact binds_K (by k_in) rfl (by k_is) rfl rfl rfl | fail "k_enter: no rule for these arguments"); (case c5w2 => decide); (case kBw2 => exact locs rfl); (case c2w2 => exact rfl); (case c3w2 => exact rfl); (case c4w2 => exact rfl))
  k_with "code_defC" => (refine' code_defC ?k1w3 ?k2w3 ?k3w3 ?k4w3 ?k5w3 ?kAw3 ?kFw3 ?kKw3 ?k6w3 ?k7w3 ?k8w3 ?k9w3 ?kBw3 ?kDw3 ?_ ?c2w3 ?c3w3 ?c4w3; (case k1w3 => k_asm); (case k2w3 => k_asm); (case k3w3 => k_asm); (case k4w3 => k_asm); (case k5w3 => k_asm); (case kAw3 => assumption); (case kFw3 => assumption); (case kKw3 => assumption); (case k6w3 => k_is); (case k7w3 => k_is); (case k8w3 => k_room); (case k9w3 => first | exact BindsTo.of_eq rfl | exact binds_K (by k_in) rfl (by k_is) rfl rfl rfl | fail "k_enter: no rule for these arguments"); (case kBw3 => exact rfl); (case kDw3 => decide +kernel); (case c2w3 => exact rfl); (case c3w3 => exact rfl); (case c4w3 => exact rfl))
  k_with "k_mem" => first | assumption | exact List.Mem.head _ | (refine' List.Mem.tail _ ?_; k_mem)
  k_with "k_all" => exact all_ne_of_lt (by assumption) (by first | exact Nat.le_refl _ | exact Nat.le_succ _ | omega)
  k_with "call builtin:str.lower" => (refine PyProof.Rows.SCL.lower (by omega) ?_; intro _)
  k_with "eval ListComp" => refine hold_intro ?_
  k_with "eval Slice none none none" => (refine slice_K (by assumption) (by assumption) ?_; intro _ _ _ _; (try k_sweep))
  k_with "setItem ref ref ref" => refine hold_intro ?_
  k_with "exec Assign cons ListComp" => ((with_reducible show wpAny _ _ (exec (Stmt.Assign [Expr.Subscript _ _ _] _ _) _) _ _ _); refine wpAny_Assign_Subscript ?_)
  k_with "call builtin:len" => (refine' len_L ?Nw11 ?hlw11 ?hsw11 ?_; (case Nw11 => k_asm); (case hlw11 => k_mem); (case hsw11 => omega); intro _ _)
  k_with "subscriptTail Name Slice ref ref" => ((with_reducible show wpAny _ _ (subscriptTail _ _ (Value.ref _) (Value.ref _)) _ _ _); refine' copy_L ?Fw12 ?Nw12 ?hlw12 ?hsw12 ?hzw12 ?_ ?hew12; (case Fw12 => k_asm); (case Nw12 => k_asm); (case hlw12 => k_mem); (case hsw12 => exact List.Mem.head _); (case hzw12 => rw [sizeLine_eq]; omega); (case hew12 => with_unfolding_all rfl); intro _ _ _ _ _; (try k_sweep))
  k_with "kp_more" => (refine' kp_more ?k1w13 ?k2w13 ?k3w13 ?k4w13 ?k5w13 ?kAw13 ?kFw13 ?kKw13 ?k6w13 ?k7w13 ?k8w13 ?kXw13 ?kMw13 ?kNw13 ?kDw13 ?kRw13 ?kPw13 ?kTw13 ?kBw13 ?_ ?c2w13 ?c3w13 ?c4w13 ?c5w13; (case kAw13 => assumption); (case kFw13 => assumption); (case kKw13 => assumption); (case k1w13 => k_asm); (case k2w13 => k_asm); (case k3w13 => k_asm); (case k4w13 => k_asm); (case k5w13 => k_asm); (case k6w13 => k_is); (case k7w13 => k_is); (case k8w13 => k_room); (case kXw13 => kp_lit); (case kMw13 => exact rfl); (case kNw13 => exact rfl); (case kDw13 => kp_flats); (case kRw13 => exact rfl); (case kPw13 => exact rfl); (case kTw13 => exact fun _ => rfl); (case kBw13 => exact fun _ => locs rfl); (case c5w13 => decide); (case c2w13 => exact rfl); (case c3w13 => exact rfl); (case c4w13 => exact rfl))
  k_with "exec For Tuple Name" => refine hold_intro ?_
  k_with "exec For Tuple Call" => refine hold_intro ?_
  k_with "exec For Tuple Call cons nil" => refine hold_intro ?_
  k_with "exec For Tuple Name cons nil" => refine hold_intro ?_
  k_with "call builtin:list.append" => (refine' append_L ?Fw18 ?Nw18 ?hlw18 ?_ ?hzw18; (case Fw18 => k_asm); (case Nw18 => k_asm); (case hlw18 => k_mem); (case hzw18 => (rw [sizeLine_eq]; omega)); intro _ _ _)
  k_with "mk_sit" => (refine' Sit.mk ?KXw19 ?Tw19 ?Bw19 ?Fw19 ?Nw19 ?hAw19 ?hfw19 ?hkew19 ?hroomw19 ?hhw19; (case KXw19 => k_asm); (case Tw19 => k_asm); (case Bw19 => k_asm); (case Fw19 => k_asm); (case Nw19 => k_asm); (case hAw19 => first | with_reducible assumption | exact Around.frames_deeper (Below.stack (by with_reducible assumption)) | rfl); (case hfw19 => first | with_reducible assumption | rfl); (case hkew19 => first | with_reducible assumption | rfl); (case hroomw19 => k_room); (case hhw19 => first | with_reducible assumption | exact handled_deeper (by with_reducible assumption) | assumption | rfl))
  k_with "call ref" => ((with_reducible show wpAny _ _ (call (Value.ref 83) [_, Value.str _ _] (List.zip _ [Value.bool true])) _ _ _); k_dflt (refine' conv_name ?Sw20 ?kaw20 ?kbw20 ?_; (case Sw20 => walk_at "mk_sit"); (case kaw20 => k_asm); (case kbw20 => k_asm); k_whole); intro _ _ _ _)
  k_with "call ref" => ((with_reducible show wpAny _ _ (call (Value.ref 83) [_, Value.str _ _] (List.zip _ [Value.bool false])) _ _ _); k_dflt (refine' conv_val ?Sw21 ?kaw21 ?kbw21 ?_; (case Sw21 => walk_at "mk_sit"); (case kaw21 => k_asm); (case kbw21 => k_asm); k_whole); intro _ _ _ _)
  k_with "box" => first | with_reducible assumption | exact Box.tail (by with_reducible assumption) | exact Box.tail (Box.tail (by with_reducible assumption)) | exact Box.tail (Box.tail (Box.tail (by with_reducible assumption))) | exact Box.tail (Box.tail (Box.tail (Box.tail (by with_reducible assumption))))
  k_with "k_mem" => first | with_reducible assumption | exact Box.hx (by with_reducible assumption) | exact Box.hd (by with_reducible assumption) | exact Box.hl (by with_reducible assumption) | exact List.Mem.head _ | (refine' List.Mem.tail _ ?_; k_mem) | (refine' Kept.mem (by with_reducible assumption) ?_ ?_; (k_mem); (first | with_reducible assumption | exact Ne.symm (by with_reducible assumption)))
  k_with "call ref" => ((with_reducible show wpAny _ _ (call (Value.ref 102) [_, Value.str _ _] _) _ _ _); k_dflt (refine' box_del ?Sw24 ?Bw24 ?kaw24 ?kbw24 ?_; (case Sw24 => walk_at "mk_sit"); (case Bw24 => walk_at "box"); (case kaw24 => walk_at "side"); (case kbw24 => walk_at "side"); k_whole); intro _ _ _ _ _ _ _ _ _)
  k_with "call ref" => ((with_reducible show wpAny _ _ (call (Value.ref 123) [_, Value.str _ _] _) _ _ _); k_dflt (refine' box_get ?Sw25 ?Bw25 ?kaw25 ?kbw25 ?_; (case Sw25 => walk_at "mk_sit"); (case Bw25 => walk_at "box"); (case kaw25 => walk_at "side"); (case kbw25 => walk_at "side"); k_whole); intro _ _ _ _ _ _ _ _ _)
  k_with "call ref" => ((with_reducible show wpAny _ _ (call (Value.ref 181) [_, Value.str _ _, Value.none] _) _ _ _); k_dflt (refine' box_none ?Sw26 ?Bw26 ?kaw26 ?kbw26 ?kcw26 ?_; (case Sw26 => walk_at "mk_sit"); (case Bw26 => walk_at "box"); (case kaw26 => walk_at "side"); (case kbw26 => walk_at "side"); (case kcw26 => walk_at "side"); k_whole); intro _ _ _ _ _ _ _ _ _ _)
  k_with "call ref" => ((with_reducible show wpAny _ _ (call (Value.ref 181) [_, Value.str _ _, Value.str _ _] _) _ _ _); k_dflt (refine' box_str ?Sw27 ?Bw27 ?kaw27 ?kbw27 ?kcw27 ?kdw27 ?kew27 ?_; (case Sw27 => walk_at "mk_sit"); (case Bw27 => walk_at "box"); (case kaw27 => walk_at "side"); (case kbw27 => walk_at "side"); (case kcw27 => walk_at "side"); (case kdw27 => walk_at "side"); (case kew27 => walk_at "side"); k_whole); intro _ _ _ _ _ _ _ _ _ _)
  k_with "call ref" => ((show wpAny _ _ (call (Value.ref 148) [Value.ref _]) _ _ _); k_dflt (refine' box_items ?Sw28 ?Bw28 ?_; (case Sw28 => walk_at "mk_sit"); (case Bw28 => walk_at "box"); k_whole); intro _ _ _ _ _ _)
  k_with "side" => first | with_reducible assumption | decide | omega
  k_with "call builtin:len" => (k_dflt (refine' box_len ?Sw30 ?Bw30 ?_; (case Sw30 => walk_at "mk_sit"); (case Bw30 => walk_at "box"); k_whole); intro _ _ _ _ _)
  k_with "call builtin:list.append" => (refine' append_K ?Fw31 ?Nw31 ?hlw31 ?hzw31 ?_; (case Fw31 => k_asm); (case Nw31 => k_asm); (case hlw31 => k_mem); (case hzw31 => (rw [sizeLine_eq]; first | omega | decide)); intro _ _ _ _ _ _)
  k_with "call builtin:list.append" => (refine' box_tell ?Fw32 ?Nw32 ?Bw32 ?htw32 ?hnew32 ?hsw32 ?_; (case Fw32 => k_asm); (case Nw32 => k_asm); (case Bw32 => walk_at "box"); (case htw32 => k_mem); (case hnew32 => assumption); (case hsw32 => walk_at "side"); intro _ _ _ _ _ _ _)
  k_with "call builtin:list.append" => (refine' box_append ?Fw33 ?Nw33 ?Bw33 ?htw33 ?hsw33 ?hzw33 ?_; (case Fw33 => k_asm); (case Nw33 => k_asm); (case Bw33 => walk_at "box"); (case htw33 => exact List.Mem.head _); (case hsw33 => walk_at "side"); (case hzw33 => walk_at "side"); intro _ _ _ _ _ _)
  k_with "exec For Name Call" => refine hold_intro ?_
  k_with "exec For Name Name" => refine hold_intro ?_
  k_with "exec For Name Name cons nil" => refine hold_intro ?_
  k_with "exec For Name Call cons nil" => refine hold_intro ?_
  k_with "kept2" => first | assumption | exact Kept2.start | (refine' Kept2.tail ?_; walk_at "kept2") | (refine' Kept2.left ?kzw38 ?kww38; (case kww38 => assumption); (case kzw38 => walk_at "kept2")) | (refine' Kept2.right ?kzw38 ?kww38; (case kww38 => assumption); (case kzw38 => walk_at "kept2")) | (refine' Kept2.both ?kzw38 ?kww38; (case kww38 => with_reducible assumption); (case kzw38 => walk_at "kept2"))
  k_with "agree" => first | assumption | exact Agree.start | (refine' Agree.set ?_ ?kww39; (case kww39 => decide); walk_at "agree")
  k_with "delItem ref str" => (k_dflt (refine' delItem_own ?Fw40 ?Xw40 ?Iw40 ?hQw40 ?hSw40 ?hFw40 ?_; (case Fw40 => k_asm); (case Xw40 => k_asm); (case Iw40 => k_inst); (case hSw40 => k_is); (case hFw40 => k_is); (case hQw40 => k_is); k_whole))
  k_with "call builtin:len" => (refine' len_L ?Nw41 ?hlw41 ?hsw41 ?_; (case hlw41 => k_mem); (case hsw41 => with_reducible assumption); (case Nw41 => k_asm); intro _ _)
  trivial
section
variable {w : World} {A A₀ : Around} {E : Value → Shared → Prop} {s : Shared} {h₀ base : Heap} {outer : List Env} {L C l : Addr} {m m₃ mg mb : Str → Option Value} {news : List (Addr × Obj)} {env env' : Env} {scope : Scope} {cl : List (Str × Addr)} {p1 p2 p3 : Pos}
   {p : Program} {loose : List Str} {mean : ExcName → Option Value} {Q : Value → Shared → Prop} {n : Nat}
theorem init_elt (S : Sit w A A₀ base h₀ env' outer L m p loose mean mg mb news s.heap 15) (hl : (l, listOf #[] n) ∈ news) (hg : env.globals = mainGlobals) (hk : (compEnvC scope cl C env).scope.kind = .function) (hj : (compEnvC scope cl C env).kindOf (Str.ofString "given") = some .local) (h1 : (compEnvC scope cl C env).kindOf (Str.ofString "Headers") = some .globalImplicit) (hn : s.heap.Ns C m₃) (hm : m₃ (Str.ofString "given") = some (.ref l))
   (hQ : ∀ x d h' t' tl, Fr h₀ L h' m → News h₀ L h' ((x, instObj 184 d) :: (d, dictOf [⟨PyData.keyHash w.params (Str.ofString "_headers"), .str (Str.ofString "_headers") tl, .ref l⟩] 1) :: news) → (∀ q ∈ news, q.1 < d) → d < x → Q (.ref x) {s with heap := h', toks := t'}) :
   wpAny (model pg w) A (eval (.Call (.Name (Str.ofString "Headers") p1) [.Name (Str.ofString "given") p2] [] p3) (compEnvC scope cl C env)) Q E s := by
  refine Call_ ?_
  refine LCgL.ld_global S.F S.KX S.T (by k_is) ?_ hg hk h1
  refine callWith_K S.KX (by k_is) ?_
  refine spliced_more ?_
  refine wpAny_Name (wpAny_loadName_local hk hj hn hm ?_)
  refine spliced_none ?_
  refine ⟨S.KX.keeps S.F.keep, ?_⟩
  exact init_spec S hl (by show 0 ≤ 1000; decide) .nil (fun q hq => nomatch hq) hQ
theorem empty_elt (S : Sit w A A₀ base h₀ env' outer L m p loose mean mg mb news s.heap 15)
   (hQ : ∀ D h' t', Fr h₀ L h' m → News h₀ L h' ((D, listOf #[] 0) :: news) → (∀ q ∈ news, q.1 < D) → Q (.ref D) {s with heap := h', toks := t'}) :
   wpAny (model pg w) A (eval (.List [] p1) env) Q E s := by
  obtain ⟨KX, T, B', F, N, hA, hf, hke, hroom, hh⟩ := S
  k_steps
  exact hQ _ _ _ (by assumption) (by assumption) (by assumption)
end
end
section
theorem kw47 : True := by
  w_top off
  trivial
theorem ScalesAt.mono {n n' : List (Addr × Obj)} {D : Addr} (h : ScalesAt n D) (k : ∀ q ∈ n, q ∈ n') : ScalesAt n' D := by
  obtain ⟨its, c, h1, h2⟩ := h
  exact ⟨its, c, k _ h1, Paired.imp h2 fun _ _ ⟨t, o, a, c, tn, tw, e1, e2, e3, e4⟩ => ⟨t, o, a, c, tn, tw, e1, k _ e2, k _ e3, e4⟩⟩
theorem nodup_inj {α : Type} {l : List α} {i j : Nat} {a : α} (h : l.Nodup) (h1 : l[i]? = some a) (h2 : l[j]? = some a) : i = j := by
  induction l generalizing i j with
  | nil => simp at h1
  | cons b r ih =>
    obtain ⟨h3, h4⟩ := List.nodup_cons.mp h
    cases i with
    | zero =>
      cases j with
      | zero => rfl
      | succ j => cases h1; exact absurd (List.mem_of_getElem? (List.getElem?_cons_succ ▸ h2)) h3
    | succ i =>
      cases j with
      | zero => cases h2; exact absurd (List.mem_of_getElem? (List.getElem?_cons_succ ▸ h1)) h3
      | succ j => exact congrArg _ (ih h4 (List.getElem?_cons_succ ▸ h1) (List.getElem?_cons_succ ▸ h2))
theorem kw45 : True := by
  k_with "exec For Name Call" => refine hold_intro ?_
  k_with "exec For Name Call cons nil" => refine hold_intro ?_
  k_with "execs cons" => ((with_reducible show wpAny _ _ (execs (Stmt.For (Expr.Name _ _) (Expr.Call _ _ _ _) _ _ _ :: _) _) _ _ _); refine hold_intro ?_)
  trivial
section
variable {w : World} {A A₀ : Around} {E : Value → Shared → Prop} {s : Shared} {h₀ : Heap} {L fa lc ln sc TT GG NO : Addr} {cd : Value} {m mg mb : Str → Option Value} {news : List (Addr × Obj)}
   {p : Program} {loose : List Str} {mean : ExcName → Option Value} {Q : Flow → Shared → Prop} {cits nits tits gits zits : Array Value} {cn nn kt kg kz : Nat} {cs : List Int} {rs : List Rec} {pss : Nat → List (Str × Value)}
local macro_rules | `(tactic| walk_at "pyIter ref") => `(tactic| refine hold_intro ?_)
theorem kw46 : True := by
  k_with "exec Assign cons ListComp" => refine hold_intro ?_
  k_with "compareOp Eq ref ref" => refine hold_intro ?_
  k_with "compareOp NotEq ref ref" => refine hold_intro ?_
  k_with "call ref" => ((with_reducible show wpAny _ _ (call (Value.ref 214) _) _ _ _); refine hold_intro ?_)
  k_with "agree" => first | with_reducible assumption | exact Agree.start | (refine' Agree.set ?_ ?kww195; (case kww195 => decide); walk_at "agree") | (refine' Agree.same ?_ ?kww195; (case kww195 => rfl); walk_at "agree")
  k_with "kin" => first | with_reducible assumption | exact List.Mem.head _ | (refine List.mem_cons_of_mem _ ?_; walk_at "kin")
  k_with "subscriptTail Name Name ref int" => ((with_reducible show wpAny _ _ (subscriptTail _ _ (Value.ref _) (Value.int _ _)) _ _ _); (refine' item_at ?Nw197 ?hlw197 ?hvw197 ?h0w197 ?hzw197 ?_; (case Nw197 => k_asm); (case hlw197 => walk_at "kin"); (case hvw197 => with_reducible assumption); (case h0w197 => with_reducible assumption); (case hzw197 => with_reducible assumption)))
  trivial
theorem law_mid (S : Sit w A A₀ h₀ h₀ (envOfC (Str.ofString "law") lawScope L fa cd) [] L m p loose mean mg mb news s.heap 100) (hu : A.units + 70 < cLine)
   (m1 : m (Str.ofString "cells") = some (.ref lc)) (m4 : m (Str.ofString "names") = some (.ref ln)) (m5 : m (Str.ofString "scales") = some (.ref sc))
   (hlc : (lc, listOf cits cn) ∈ news) (hci : IntsAre cits.toList cs) (hcl : cs.length = 12) (hln : (ln, listOf nits nn) ∈ news) (hns : StrsAre nits.toList namesL) (hsc : ScalesAt news sc)
   (hQ : ∀ h' t' m' n', Fr h₀ L h' m' → News h₀ L h' n' → Q (.ret (.bool true)) {s with heap := h', toks := t'}) :
   wpAny (model pg w) A (execs (lawBody.drop 5) (envOfC (Str.ofString "law") lawScope L fa cd)) Q E s := by
  revert S
  conv in List.drop 5 lawBody => whnf
  conv in (occs := *) lawScope => all_goals whnf
  try dsimp only
  intro S
  obtain ⟨KX, T, B', F, N, hA, hf, hke, hroom, hh⟩ := S
  rw [← overA_eq (l := [(Str.ofString "cells", .ref lc), (Str.ofString "names", .ref ln), (Str.ofString "scales", .ref sc)]) (M := m) (by simp only [List.forall_mem_cons]; exact ⟨m1, m4, m5, fun _ h => nomatch h⟩)] at F
  simp only [overA] at F
  k_steps
  refine hold_elim ?_
  refine' Assign_own (fun i zs n => ∃ ls : List Addr, zs = ls.map .ref ∧ ls.length = i ∧ ls.Nodup ∧ ∀ l ∈ ls, (l, listOf #[] 0) ∈ n ∧ ∀ q ∈ news, q.1 ≠ l) ?F1 rfl ?hsw1 ?hclos1 ?hcell1 rfl ?hnames1 rfl rfl rfl ?src1 ?hfs1
  case F1 => k_asm
  case hsw1 => with_unfolding_all rfl
  case hclos1 => with_unfolding_all rfl
  case hcell1 => decide
  case hnames1 => decide
  case hfs1 => intro _; with_unfolding_all rfl
  case src1 =>
    k_steps
    refine hold_elim ?_
    rename IsRange _ _ _ _ _ _ _ _ => hr
    refine' src_range (N₁ := 8) ?hh2 ?F2 ?N2 hr ?hs2 ?Q2
    case hh2 => exact hh
    case F2 => k_asm
    case N2 => k_asm
    case hs2 => decide
    case Q2 =>
      intro I fp wr P St h₈ O hP
      refine ⟨I, fp, wr, _, P, St, h₈, _, _, rfl, rfl, O, ⟨[], rfl, rfl, .nil, fun _ h => nomatch h⟩, ?_, ?_⟩
      · rintro C i' v zs n₁ n₂ h tk m₃ E' hi' hPv ⟨ls, rfl, hll, hnd, hls⟩ hz sub sub2 F N hn hm hC
        refine empty_elt ⟨KX, T, B', F, N, hA, hf, hke, by omega, hh⟩ ?_
        intro D h' t' F' N' lD
        refine ⟨_, _, [(D, listOf #[] 0)], rfl, F', N', (fun q hq e he => by rw [List.mem_singleton.mp hq]; exact Nat.ne_of_lt (lD _ he)), ls ++ [D], by rw [List.map_append]; rfl, by rw [List.length_append, hll]; rfl, ?_, fun l hl => ?_⟩
        · refine List.nodup_append.mpr ⟨hnd, by simp, fun a ha b hb e => ?_⟩
          rw [List.mem_singleton.mp hb] at e
          exact absurd e (Nat.ne_of_lt (lD _ (sub2 _ (hls a ha).1)))
        · rcases List.mem_append.mp hl with hl | hl
          · exact ⟨.tail _ (hls l hl).1, (hls l hl).2⟩
          · rw [List.mem_singleton.mp hl]
            exact ⟨.head _, fun q hq => Nat.ne_of_lt (lD _ (sub2 _ (sub _ hq)))⟩
      · rintro D zs k n₁ h' tk F' N' ne sub ⟨ls, rfl, hll, hnd, hls⟩ hzl
        k_steps
        refine hold_elim ?_
        have hG := N'
        refine' Assign_own (fun i zs n => ∃ rs : List Rec, zs = (rs.map fun r => Value.ref r.x) ∧ rs.map (·.l) = ls.take i ∧ ∀ r ∈ rs, Box w n r.x r.l r.d r.tl #[] 0 []) ?F3 rfl ?hsw3 ?hclos3 ?hcell3 rfl ?hnames3 rfl rfl rfl ?src3 ?hfs3
        case F3 => k_asm
        case hsw3 => with_unfolding_all rfl
        case hclos3 => with_unfolding_all rfl
        case hcell3 => decide
        case hnames3 => decide
        case hfs3 => intro _; with_unfolding_all rfl
        case src3 =>
          k_steps
          refine hold_elim ?_
          refine' src_list (its := (ls.map Value.ref).toArray) (n := k) ?hh4 ?F4 ?N4 (List.Mem.head _) ?hs4 ?Q4
          case hh4 => exact hh
          case F4 => k_asm
          case N4 => k_asm
          case hs4 => rw [sizeLine_eq, List.size_toArray, List.length_map, hll]; decide
          case Q4 =>
            intro I fp wr P St h₈ O hP
            refine ⟨I, fp, wr, _, P, St, h₈, _, _, rfl, rfl, O, ⟨[], rfl, rfl, fun _ h => nomatch h⟩, ?_, ?_⟩
            · rintro C i' v zs n₂ n₃ h tk m₃ E' hi' hPv ⟨rs, rfl, hrl, hrb⟩ hz sub2 sub3 F N hn hm hC
              have hv := hP _ _ hPv
              rw [List.getElem?_toArray, List.getElem?_map] at hv
              obtain ⟨l, hl, rfl⟩ := Option.map_eq_some_iff.mp hv
              have hl2 := (hls l (List.mem_of_getElem? hl)).1
              have hl3 := sub2 _ (List.mem_cons_of_mem _ hl2)
              refine init_elt ⟨KX, T, B', F, N, hA, hf, hke, by omega, hh⟩ (sub3 _ hl3) rfl rfl rfl rfl hn hm ?_
              intro x d h' t' tl F' N' ld lx
              refine ⟨_, _, [_, _], rfl, F', N', (fun q hq e he => ?_), rs ++ [⟨x, l, d, tl⟩], by rw [List.map_append]; rfl, ?_, fun r hr => ?_⟩
              · rcases List.mem_cons.mp hq with rfl | hq
                · exact Nat.ne_of_lt (Nat.lt_trans (ld _ he) lx)
                · rw [List.mem_singleton.mp hq]; exact Nat.ne_of_lt (ld _ he)
              · rw [List.map_append, hrl, List.take_add_one, hl]; rfl
              · rcases List.mem_append.mp hr with hr | hr
                · exact (hrb r hr).mono fun q hq => .tail _ (.tail _ hq)
                · rw [List.mem_singleton.mp hr]
                  exact ⟨.head _, .tail _ (.head _), .tail _ (.tail _ hl3), .nil, by decide⟩
            · rintro D2 zs k2 n₂ h' tk F' N' ne2 sub2 ⟨rs, rfl, hrl, hrb⟩ hzl2
              have hr8 : rs.length = 8 := by have := congrArg List.length hrl; rw [List.length_map, List.size_toArray, List.length_map, hll, List.take_of_length_le (Nat.le_of_eq hll), hll] at this; exact this
              have hBt : Tables w n₂ rs fun _ => [] := fun i r h => ⟨_, _, hrb r (List.mem_of_getElem? h)⟩
              have hrl8 : rs.map (·.l) = ls := by rw [hrl, List.take_of_length_le (by rw [List.size_toArray, List.length_map]; exact Nat.le_refl _)]
              have hrl' : ∀ r ∈ rs, r.l ∈ ls := fun r hr => List.mem_of_mem_take (hrl ▸ List.mem_map_of_mem hr)
              k_steps
              refine hold_elim ?_
              rename News _ _ _ _ => N5
              rename Fr _ _ _ _ => F5
              rename_i NO hz1 Fz Nz lN hz2
              refine' ListComp_own (fun i zs n => IntsAre zs ((List.range i).map fun x => (([] : List (Str × Value)).length : Int))) F5 ?hclos6 ?hcell6 rfl ?hnames6 rfl ?src6 ?hfs6
              case hclos6 => with_unfolding_all rfl
              case hcell6 => decide
              case hnames6 => decide
              case hfs6 => intro _; with_unfolding_all rfl
              case src6 =>
                k_steps
                refine hold_elim ?_
                refine' src_list (its := (rs.map fun r => Value.ref r.x).toArray) (n := k2) ?hh7 ?F7 ?N7 ?l7 ?hs7 ?Q7
                case hh7 => exact hh
                case F7 => k_asm
                case N7 => k_asm
                case l7 => exact List.mem_cons_of_mem _ (List.Mem.head _)
                case hs7 => rw [sizeLine_eq, List.size_toArray, List.length_map, hr8]; decide
                case Q7 =>
                  intro I fp wr P St h₈ O hP
                  refine ⟨I, fp, wr, _, P, St, h₈, _, _, rfl, rfl, O, .nil, ?_, ?_⟩
                  · exact len_elem (pss := fun _ => []) KX T B' hA hf hke (by omega) hh (hBt.mono fun q hq => .tail _ (.tail _ hq)) rfl hP rfl rfl (fun _ => rfl) (fun _ => rfl) (fun _ => rfl)
                  · intro D6 z6 k6 n6 h' tk F' N' ne6 sub6 hJ6 hz6
                    rw [List.size_toArray, List.length_map, hr8] at hJ6
                    k_steps
                    refine hold_elim ?_
                    have xN := sub6 _ (List.Mem.head _)
                    refine ne_own N' (List.Mem.head _) (List.mem_cons_of_mem _ xN) hJ6 (.cons _ _ (.cons _ _ (.cons _ _ (.cons _ _ (.cons _ _ (.cons _ _ (.cons _ _ (.cons _ _ .nil)))))))) (by omega) rfl ?_
                    k_steps
                    refine hold_elim ?_
                    have sub26 : ∀ q ∈ n₂, q ∈ n6 := fun q hq => sub6 _ (List.mem_cons_of_mem _ (List.mem_cons_of_mem _ hq))
                    have sub16 : ∀ q ∈ n₁, q ∈ n6 := fun q hq => sub26 _ (sub2 _ (List.mem_cons_of_mem _ hq))
                    have lsn2 : ∀ l ∈ ls, (l, listOf #[] 0) ∈ n₂ := fun l hl => sub2 _ (List.mem_cons_of_mem _ (hls l hl).1)
                    have xT := sub6 _ (List.mem_cons_of_mem _ (List.Mem.head _))
                    have xG := sub26 _ (sub2 _ (List.Mem.head _))
                    obtain ⟨ks, hks⟩ : ∃ ks, ks = n6.filter (fun p => decide (p.1 ∉ ls)) := ⟨_, rfl⟩
                    have ink : ∀ p ∈ n6, p.1 ∉ ls → p ∈ ks := fun p hp h => by rw [hks, List.mem_filter, decide_eq_true_eq]; exact ⟨hp, h⟩
                    have nwk : ∀ p ∈ news, p ∈ ks := fun p hp => ink p (sub16 _ (sub _ hp)) fun hm => (hls _ hm).2 p hp rfl
                    refine' law_fill (kg := k) ?S9 hu ?m19 ?m29 ?m39 ?m49 ?m59 ?m69 (ks := ks) ?hks9 ?hkl9 (nwk _ hlc) hci hcl (nwk _ hln) hns ?hsc9 (ink _ xT ?t9) rfl (ink _ xG ?g9) ?hrg9 hr8 ?hD9 (ink _ xN ?z9) ?hzi9 ?hB9 ?hQ9
                    case S9 => exact ⟨KX, T, B', by k_asm, by k_asm, hA, hf, hke, by omega, hh⟩
                    case m19 => rfl
                    case m29 => rfl
                    case m39 => rfl
                    case m49 => rfl
                    case m59 => rfl
                    case m69 => rfl
                    case hks9 =>
                      intro p hp
                      rw [hks, List.mem_filter] at hp
                      exact List.mem_cons_of_mem _ hp.1
                    case hkl9 =>
                      intro p hp r hr e
                      rw [hks, List.mem_filter, decide_eq_true_eq] at hp
                      exact hp.2 (e ▸ hrl' r hr)
                    case hsc9 => exact hsc.mono nwk
                    case t9 => exact fun hm => ne2 _ (lsn2 _ hm) rfl
                    case g9 => exact fun hm => ne _ (hls _ hm).1 rfl
                    case hrg9 =>
                      show ls.map Value.ref = _
                      rw [← hrl8, List.map_map]
                      rfl
                    case hD9 =>
                      intro i j r q hi hj hne e
                      have e1 : ls[i]? = some r.l := by rw [← hrl8, List.getElem?_map, hi]; rfl
                      have e2 : ls[j]? = some q.l := by rw [← hrl8, List.getElem?_map, hj]; rfl
                      exact hne (nodup_inj hnd e1 (e ▸ e2))
                    case z9 => exact fun hm => absurd ((kst_ltOf lN.2) _ (lsn2 _ hm)) (Nat.lt_irrefl _)
                    case hzi9 => exact .cons _ _ (.cons _ _ (.cons _ _ (.cons _ _ (.cons _ _ (.cons _ _ (.cons _ _ (.cons _ _ .nil)))))))
                    case hB9 => exact hBt.mono fun q hq => List.mem_cons_of_mem _ (sub26 _ hq)
                    case hQ9 => exact fun h' t' m' n' F' N' => hQ h' t' m' n' F' N'
end
end
end
end
end
end Mine
namespace Mine
section
local macro_rules | `(tactic| k_room) => `(tactic| k_extra "k_room")
local macro_rules | `(tactic| k_mem) => `(tactic| k_extra "k_mem")
local macro_rules | `(tactic| k_all) => `(tactic| k_extra "k_all")
local macro_rules | `(tactic| walk_at $s:str) => `(tactic| k_extra $s)
theorem kw49 : True := by
  w_top off
  k_with_none
  trivial
section
theorem kw48 : True := by
  k_with "execs cons" => ((with_reducible show wpAny _ _ (execs (Stmt.For (Expr.Name _ _) (Expr.Subscript _ _ _) _ _ _ :: _) _) _ _ _); refine hold_intro ?_)
  k_with "exec Assign cons ListComp" => refine hold_intro ?_
  k_with "call ref" => ((with_reducible show wpAny _ _ (call (Value.ref 209) _) _ _ _); refine hold_intro ?_)
  k_with "storeName" => ((with_reducible show wpAny _ _ (storeName _ (Str.ofString "counts") _) _ _ _); refine hold_intro ?_)
  k_with "exec For Name Call" => refine hold_intro ?_
  k_with "exec For Name Call cons nil" => refine hold_intro ?_
  k_with "exec If" => refine hold_intro ?_
  k_with "exec Assign cons ListComp" => ((with_reducible show wpAny _ _ (exec (Stmt.Assign [Expr.Name (Str.ofString "tables") _] _ _) _) _ _ _); refine hold_intro ?_)
  k_with "execs cons" => ((with_reducible show wpAny _ _ (execs (Stmt.Assign [Expr.Name (Str.ofString "lists") _] _ _ :: _) _) _ _ _); refine hold_intro ?_)
  trivial
theorem holds2 : PySem.Challenge.rw_un0065_02.Holds := hd (by
  k_go0
  k_steps
  refine hold_elim ?_
  refine' Assign_cells (N := 12) ?hL ?hh ?F ?N ?hmd ?hst ?hO ?dO ?hN ?dN ?hLO ?hLN ?hi ?hm ?hbz ?hnl ?hfit ?gg ?gm ?gb ?gs ?hsw ?hclos ?hcell ?hkind ?hnames ?hx ?hy ?hp ?hk ?hj ?h1 ?h2 ?h3 ?l1 ?l2 ?hk2 ?hfree ?hcell2 ?hnames2 ?hx2 ?hk3 ?hx3 ?hs ?hiter ?hQ
  case hclos => with_unfolding_all rfl
  case l1 => rfl
  case l2 => rfl
  case hh => rfl
  case F => k_asm
  case N => k_asm
  case hL => rfl
  case hmd => decide
  case hst => decide
  case hO => k_mem
  case dO => assumption
  case hN => k_mem
  case dN => assumption
  case hLO => k_mem
  case hLN => k_mem
  case hi => exact .cons _ _ (.cons _ _ (.cons _ _ (.cons _ _ (.cons _ _ (.cons _ _ (.cons _ _ (.cons _ _ (.cons _ _ (.cons _ _ (.cons _ _ (.cons _ _ .nil)))))))))))
  case hm => assumption
  case hbz =>
    rw [List.size_toArray, IntsAre.length (by assumption : IntsAre _ (List.take 60 _)), List.length_take]
    exact Nat.le_trans (Nat.min_le_left _ _) (by decide)
  case hnl => rfl
  case hfit => decide
  case gg => exact (topRead_of (by assumption)).g
  case gm => exact mg_none_of (by assumption) (topRead_of (by assumption)).g (by k_is)
  case gb => exact (topRead_of (by assumption)).b
  case gs => exact ((topRead_of (by assumption)).builtins _ (by decide)).trans rfl
  case hsw => with_unfolding_all rfl
  case hcell => decide
  case hkind => rfl
  case hnames => decide
  case hx => rfl
  case hy => rfl
  case hp => rfl
  case hk => exact fun _ => rfl
  case hj => exact fun _ => rfl
  case h1 => exact fun _ => rfl
  case h2 => exact fun _ => rfl
  case h3 => exact fun _ => rfl
  case hk2 => rfl
  case hfree => decide
  case hcell2 => decide
  case hnames2 => decide
  case hx2 => rfl
  case hk3 => exact fun _ _ => rfl
  case hx3 => exact fun _ _ => rfl
  case hs => intro _; with_unfolding_all rfl
  case hiter =>
    intro Q' hQ'
    k_steps
    rename IsRange _ _ _ _ _ _ _ _ => hr
    exact hQ' _ _ _ _ _ _ (by assumption) (by assumption) hr
  case hQ =>
    intro D h' tk ys k zs F' N' I1 z11 fr
    simp only [List.mem_cons, forall_eq_or_imp, List.not_mem_nil, false_implies, implies_true, and_true] at fr
    k_steps
    refine hold_elim ?_
    refine' scales_spec ?Ss ?_
    case Ss => exact ⟨by k_asm, by k_asm, by assumption, by k_asm, by k_asm, Around.frames_deeper (Below.stack (by assumption)), rfl, rfl, by ((try simp only [depth_deeper, depth_caller]); decide), rfl⟩
    intro SC h' t' n0 F' N' sub0 Sc
    k_steps
    refine hold_elim ?_
    refine' law_mid ?S9 ?hu9 ?m19 ?m49 ?m59 ?hlc9 I1 z11 ?hln9 ?hns9 Sc ?hQ9
    case S9 => exact ⟨by k_asm, by k_asm, by assumption, by k_asm, by k_asm, Around.frames_deeper (Below.stack (by assumption)), rfl, rfl, by ((try simp only [depth_deeper, depth_caller]); decide), rfl⟩
    case hu9 => units_room
    case m19 => rfl
    case m49 => rfl
    case m59 => rfl
    case hlc9 => exact sub0 _ (.tail _ (.head _))
    case hln9 => exact sub0 _ (.head _)
    case hns9 => exact .cons _ _ (.cons _ _ (.cons _ _ (.cons _ _ (.cons _ _ (.cons _ _ (.cons _ _ (.cons _ _ (.cons _ _ (.cons _ _ (.cons _ _ (.cons _ _ .nil)))))))))))
    case hQ9 =>
      intro h' t' m' n' F' N'
      k_steps)
end
end
end Mine
theorem PySem.Challenge.cw_un0065_02_holds : PySem.Challenge.rw_un0065_02.Holds :=
  Mine.holds2
