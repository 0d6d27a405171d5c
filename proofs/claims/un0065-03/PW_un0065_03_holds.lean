import PyProof.Rows.All
import Wide.All
import OpenK.AllK
import Wide.FinOn
import PySem.Challenge.RW_un0065_03
open PySem PySem.W PyProof.Rows
set_option Elab.async false
set_option maxRecDepth 100000
set_option maxHeartbeats 0
namespace Mine
open_top hd for PySem.Challenge.rw_un0065_03
end Mine
namespace Mine
example : hd.heap_39 = hd.heap_39 ∨ PySem.Challenge.rw_un0065_03.Holds := by
  w_top off
  k_fill
  exact .inl rfl
end Mine
namespace Mine
open PySem PySem.W PyProof.Rows PySem.Builtin PySem.Builtin.Re
theorem slot_search : Slot "re.Pattern" "search" "re.Pattern.search" :=
  .of (owner := "re.Pattern") (n := "search") (by rw [typeLookup_type, builtinLookup_eq_fast]; kernel_rfl) (by decide +kernel) (by decide +kernel) (by decide +kernel)
    (by first | exact .inl (by decide +kernel) | exact .inr (by decide +kernel)) (by rw [isSubtype_type]; kernel_rfl)
theorem entry_search : entryFor table "re.Pattern.search" = some Builtin.«re.Pattern.search» := entryFor_of_tree (by kernel_rfl)
theorem args_search (a b : Value) : argsOk "re.Pattern.search" ⟨[a, b], []⟩ := by unfold argsOk; kernel_rfl
theorem type_search : typeOf (.builtin "re.Pattern.search") = pure (.type "method_descriptor") := by show builtinType _ = _; rw [builtinType_eq_fast]; kernel_rfl
theorem plain_pattern : PlainAttrs "re.Pattern" :=
  ⟨⟨"object.__getattribute__", by rw [typeLookup_type, builtinLookup_eq_fast]; kernel_rfl, by decide +kernel⟩, by rw [typeLookup_type, builtinLookup_eq_fast]; kernel_rfl⟩
#print axioms slot_search
#print axioms plain_pattern
end Mine
namespace Mine
open PySem PySem.W PyProof.Rows PySem.Builtin PySem.Builtin.Re

def isCtlN (c : Nat) : Bool := (decide (0 ≤ c) && decide (c ≤ 31)) || c == 127
def codeN : Array Nat := #[14, 10, 4, 1, 1, 22, 0, 31, 16, 127, 0, 13, 7, 22, 0, 31, 16, 127, 0, 1]
def codeV : Array Nat := #[14, 14, 4, 1, 1, 9, 4294966783, 0, 0, 2147483648, 0, 0, 0, 0, 0, 13, 11, 9, 4294966783, 0, 0, 2147483648, 0, 0, 0, 0, 0, 1]
def isCtlV (c : Nat) : Bool := decide (c < 256) && (codeV.getD (5 + (1 + c / 32)) 0).testBit (c % 32)

theorem inSetN5' (c : Nat) (seen : Sre.Seen) : Sre.inSet codeN c 20 5 true seen = if (decide (0 ≤ c) && decide (c ≤ 31)) = true then .ok (true, seen.add 22) else if (c == 127) = true then .ok (true, (seen.add 22).add 16) else .ok (false, ((seen.add 22).add 16).add 0) := by kernel_rfl
theorem inSetN13' (c : Nat) (seen : Sre.Seen) : Sre.inSet codeN c 20 13 true seen = if (decide (0 ≤ c) && decide (c ≤ 31)) = true then .ok (true, seen.add 22) else if (c == 127) = true then .ok (true, (seen.add 22).add 16) else .ok (false, ((seen.add 22).add 16).add 0) := by kernel_rfl
theorem inSetV5' (c : Nat) (seen : Sre.Seen) : Sre.inSet codeV c 28 5 true seen = if (decide (c < 256) && (codeV.getD (5 + (1 + c / 32)) 0).testBit (c % 32)) = true then .ok (true, seen.add 9) else .ok (false, (seen.add 9).add 0) := by kernel_rfl
theorem inSetV17' (c : Nat) (seen : Sre.Seen) : Sre.inSet codeV c 28 17 true seen = if (decide (c < 256) && (codeV.getD (17 + (1 + c / 32)) 0).testBit (c % 32)) = true then .ok (true, seen.add 9) else .ok (false, (seen.add 9).add 0) := by kernel_rfl
theorem inSetN5 (c : Nat) (seen : Sre.Seen) : ∃ seen', Sre.inSet codeN c codeN.size 5 true seen = .ok (isCtlN c, seen') := by
  have e := inSetN5' c seen
  unfold isCtlN
  cases h1 : (decide (0 ≤ c) && decide (c ≤ 31)) <;> cases h2 : (c == 127) <;> rw [h1, h2] at e <;> exact ⟨_, e⟩
theorem inSetN13 (c : Nat) (seen : Sre.Seen) : ∃ seen', Sre.inSet codeN c codeN.size 13 true seen = .ok (isCtlN c, seen') := by
  have e := inSetN13' c seen
  unfold isCtlN
  cases h1 : (decide (0 ≤ c) && decide (c ≤ 31)) <;> cases h2 : (c == 127) <;> rw [h1, h2] at e <;> exact ⟨_, e⟩
theorem inSetV5 (c : Nat) (seen : Sre.Seen) : ∃ seen', Sre.inSet codeV c codeV.size 5 true seen = .ok (isCtlV c, seen') := by
  have e := inSetV5' c seen
  unfold isCtlV
  cases h1 : (decide (c < 256) && (codeV.getD (5 + (1 + c / 32)) 0).testBit (c % 32)) <;> rw [h1] at e <;> exact ⟨_, e⟩
theorem v17 (c : Nat) (h : c < 256) : codeV.getD (17 + (1 + c / 32)) 0 = codeV.getD (5 + (1 + c / 32)) 0 := by
  have h2 : c / 32 < 8 := by omega
  generalize c / 32 = k at h2
  revert k
  decide
theorem inSetV17 (c : Nat) (seen : Sre.Seen) : ∃ seen', Sre.inSet codeV c codeV.size 17 true seen = .ok (isCtlV c, seen') := by
  have e := inSetV17' c seen
  unfold isCtlV
  by_cases hc : c < 256
  · rw [v17 c hc] at e
    cases h1 : (decide (c < 256) && (codeV.getD (5 + (1 + c / 32)) 0).testBit (c % 32)) <;> rw [h1] at e <;> exact ⟨_, e⟩
  · have : decide (c < 256) = false := decide_eq_false hc
    rw [this, Bool.false_and] at e ⊢
    exact ⟨_, e⟩

/-- a code: its first set at 5, its one set at q, success behind -/
structure OneSet (code : Array Nat) (q : Nat) (ctl : Nat → Bool) : Prop where
  first : ∀ c seen, ∃ seen', Sre.inSet code c code.size 5 true seen = .ok (ctl c, seen')
  body : ∀ c seen, ∃ seen', Sre.inSet code c code.size (q + 2) true seen = .ok (ctl c, seen')
theorem oneN : OneSet codeN 11 isCtlN := ⟨inSetN5, inSetN13⟩
theorem oneV : OneSet codeV 15 isCtlV := ⟨inSetV5, inSetV17⟩

theorem admitted_none {code : Array Nat} {q : Nat} {ctl : Nat → Bool} (O : OneSet code q ctl) (m : Sre.M) (hm : m.code = code) : ∀ fuel s seen, (∀ i, s ≤ i → i < m.lim → ctl (m.text.getD i 0) = false) → ∃ seen', Sre.M.admitted m fuel s seen = .ok (none, seen')
  | 0, s, seen, _ => ⟨seen, rfl⟩
  | fuel + 1, s, seen, h => by
    unfold Sre.M.admitted
    by_cases hs : s ≥ m.lim
    · rw [if_pos hs]; exact ⟨_, rfl⟩
    · rw [if_neg hs, hm]
      obtain ⟨seen', e⟩ := O.first (m.text.getD s 0) seen
      rw [e, h s (Nat.le_refl _) (by omega)]
      exact admitted_none O m hm fuel (s + 1) seen' fun i hi => h i (by omega)
theorem admitted_some {code : Array Nat} {q : Nat} {ctl : Nat → Bool} (O : OneSet code q ctl) (m : Sre.M) (hm : m.code = code) : ∀ fuel s seen, m.lim - s < fuel → (∃ i, s ≤ i ∧ i < m.lim ∧ ctl (m.text.getD i 0) = true) → ∃ k seen', Sre.M.admitted m fuel s seen = .ok (some k, seen') ∧ k < m.lim ∧ ctl (m.text.getD k 0) = true
  | 0, s, seen, hf, _ => by omega
  | fuel + 1, s, seen, hf, ⟨i, h1, h2, h3⟩ => by
    unfold Sre.M.admitted
    rw [if_neg (by omega), hm]
    obtain ⟨seen', e⟩ := O.first (m.text.getD s 0) seen
    rw [e]
    cases hc : ctl (m.text.getD s 0) with
    | true => exact ⟨s, seen', rfl, by omega, hc⟩
    | false =>
      refine admitted_some O m hm fuel (s + 1) seen' (by omega) ⟨i, ?_, h2, h3⟩
      rcases Nat.eq_or_lt_of_le h1 with rfl | h1
      · rw [hc] at h3; cases h3
      · exact h1
end Mine
namespace Mine
open PySem PySem.W PyProof.Rows PySem.Builtin PySem.Builtin.Re

theorem run_failed (m : Sre.M) (ha : m.answer = some false) (hf : m.frames = []) (ho : m.outcome = none) : (m.runFor 4).outcome = some .failed := by
  have e : m.step = { m with outcome := some .failed } := by
    unfold Sre.M.step
    rw [ho, ha, hf]; rfl
  unfold Sre.M.runFor
  rw [ho, e]
  rfl

/-- what the machine does with a code of one set -/
structure OneCode (code : Array Nat) (q : Nat) (ctl : Nat → Bool) : Prop extends OneSet code q ctl where
  sz : q + 8 ≤ code.size ∨ q + 8 ≤ code.size
  start : ∀ t lim, ∃ m : Sre.M, m.code = code ∧ m.text = t ∧ m.lim = lim ∧ m.answer = none ∧ m.frames = [] ∧ m.outcome = none ∧ m.pc = q ∧ m.wholeText = false ∧ m.weight = 0 ∧ m.mustAdvance = false ∧
    Sre.forSearch code t 0 0 lim false = if (decide (0 > lim) || decide (lim - 0 < 1)) = true then m.say false else (match Sre.M.admitted m (m.lim + 1 - 0) 0 m.seen with
      | .ok (some s, seen) => { m with mustAdvance := false, seen := seen }.attemptAt s true
      | .ok (none, seen) => { m with seen := seen }.say false
      | .error why => m.stick why)

theorem startN (t : Array Nat) (lim : Nat) : ∃ m : Sre.M, m.code = codeN ∧ m.text = t ∧ m.lim = lim ∧ m.answer = none ∧ m.frames = [] ∧ m.outcome = none ∧ m.pc = 11 ∧ m.wholeText = false ∧ m.weight = 0 ∧ m.mustAdvance = false ∧
    Sre.forSearch codeN t 0 0 lim false = if (decide (0 > lim) || decide (lim - 0 < 1)) = true then m.say false else (match Sre.M.admitted m (m.lim + 1 - 0) 0 m.seen with
      | .ok (some s, seen) => { m with mustAdvance := false, seen := seen }.attemptAt s true
      | .ok (none, seen) => { m with seen := seen }.say false
      | .error why => m.stick why) := by
  by_cases h : lim < 1
  · have : lim = 0 := by omega
    subst this
    exact ⟨{ code := codeN, text := t, lim := 0, start := 0, pc := 11, pos := 0, handed := 0, marks := #[], seen := ({} : Sre.Seen).add 14 }, rfl, rfl, rfl, rfl, rfl, rfl, rfl, rfl, rfl, rfl, rfl⟩
  · refine ⟨{ code := codeN, text := t, lim := lim, start := 0, pc := 11, pos := 0, handed := 0, marks := #[], lastStart := lim, seen := ({} : Sre.Seen).add 14 }, rfl, rfl, rfl, rfl, rfl, rfl, rfl, rfl, rfl, rfl, ?_⟩
    have e : (decide (0 > lim) || decide (lim - 0 < 1)) = false := by simp; omega
    unfold Sre.forSearch
    rw [e]
    exact (if_neg (by show ¬ (decide (0 > lim) || decide (lim - 0 < 1)) = true; rw [e]; decide)).trans rfl
theorem startV (t : Array Nat) (lim : Nat) : ∃ m : Sre.M, m.code = codeV ∧ m.text = t ∧ m.lim = lim ∧ m.answer = none ∧ m.frames = [] ∧ m.outcome = none ∧ m.pc = 15 ∧ m.wholeText = false ∧ m.weight = 0 ∧ m.mustAdvance = false ∧
    Sre.forSearch codeV t 0 0 lim false = if (decide (0 > lim) || decide (lim - 0 < 1)) = true then m.say false else (match Sre.M.admitted m (m.lim + 1 - 0) 0 m.seen with
      | .ok (some s, seen) => { m with mustAdvance := false, seen := seen }.attemptAt s true
      | .ok (none, seen) => { m with seen := seen }.say false
      | .error why => m.stick why) := by
  by_cases h : lim < 1
  · have : lim = 0 := by omega
    subst this
    exact ⟨{ code := codeV, text := t, lim := 0, start := 0, pc := 15, pos := 0, handed := 0, marks := #[], seen := ({} : Sre.Seen).add 14 }, rfl, rfl, rfl, rfl, rfl, rfl, rfl, rfl, rfl, rfl, rfl⟩
  · refine ⟨{ code := codeV, text := t, lim := lim, start := 0, pc := 15, pos := 0, handed := 0, marks := #[], lastStart := lim, seen := ({} : Sre.Seen).add 14 }, rfl, rfl, rfl, rfl, rfl, rfl, rfl, rfl, rfl, rfl, ?_⟩
    have e : (decide (0 > lim) || decide (lim - 0 < 1)) = false := by simp; omega
    unfold Sre.forSearch
    rw [e]
    exact (if_neg (by show ¬ (decide (0 > lim) || decide (lim - 0 < 1)) = true; rw [e]; decide)).trans rfl
end Mine
namespace Mine
open PySem PySem.W PyProof.Rows PySem.Builtin PySem.Builtin.Re

theorem stepsN (t : Array Nat) (lim s : Nat) (hs : s < lim) (hc : isCtlN (t.getD s 0) = true) (m : Sre.M) (h1 : m.code = codeN) (h2 : m.text = t) (h3 : m.lim = lim) (h4 : m.answer = none) (h5 : m.outcome = none) (h6 : m.pc = 11) (h7 : m.pos = s)
    (h8 : m.wholeText = false) (h9 : m.mustAdvance = false) (f : Sre.Frame) (h10 : m.frames = [f]) (h11 : f.wait = .nextStart) : (m.runFor 4).outcome = some .matched := by
  obtain ⟨code, text, li, start, ls, wt, ma, pc, pos, hd, om, mk, lm, lx, lo, inn, fr, we, an, sn, oc⟩ := m
  dsimp only at *
  subst h1 h2 h3 h4 h5 h6 h7 h8 h9 h10
  obtain ⟨seen', e⟩ := inSetN13 (text.getD pos 0) (sn.add 13)
  rw [hc] at e
  have s1 : Sre.M.step ⟨codeN, text, li, start, ls, false, false, 11, pos, hd, om, mk, lm, lx, lo, inn, [f], we, none, sn, none⟩ = ⟨codeN, text, li, start, ls, false, false, 19, pos + 1, hd, om, mk, lm, lx, lo, inn, [f], we, none, seen', none⟩ := by
    show (if pos ≥ li then _ else match Sre.inSet codeN (text.getD pos 0) codeN.size 13 true (sn.add 13) with | .error why => _ | .ok (false, seen) => _ | .ok (true, seen) => _) = _
    rw [if_neg (by omega), e]
    rfl
  have s2 : Sre.M.step ⟨codeN, text, li, start, ls, false, false, 19, pos + 1, hd, om, mk, lm, lx, lo, inn, [f], we, none, seen', none⟩ = ⟨codeN, text, li, start, ls, false, false, 19, pos + 1, pos + 1, om, mk, lm, lx, lo, inn, [f], we, some true, seen'.add 1, none⟩ := by
    show (if (om && ((false && _) || (false && _))) = true then _ else _) = _
    rw [if_neg (by simp)]
    rfl
  obtain ⟨fw, fpc, fpos, fo, fc, fk, fl, fb⟩ := f
  dsimp only at h11
  subst h11
  unfold Sre.M.runFor
  rw [if_neg (by exact Bool.false_ne_true), s1]
  unfold Sre.M.runFor
  rw [if_neg (by exact Bool.false_ne_true), s2]
  rfl
theorem stepsV (t : Array Nat) (lim s : Nat) (hs : s < lim) (hc : isCtlV (t.getD s 0) = true) (m : Sre.M) (h1 : m.code = codeV) (h2 : m.text = t) (h3 : m.lim = lim) (h4 : m.answer = none) (h5 : m.outcome = none) (h6 : m.pc = 15) (h7 : m.pos = s)
    (h8 : m.wholeText = false) (h9 : m.mustAdvance = false) (f : Sre.Frame) (h10 : m.frames = [f]) (h11 : f.wait = .nextStart) : (m.runFor 4).outcome = some .matched := by
  obtain ⟨code, text, li, start, ls, wt, ma, pc, pos, hd, om, mk, lm, lx, lo, inn, fr, we, an, sn, oc⟩ := m
  dsimp only at *
  subst h1 h2 h3 h4 h5 h6 h7 h8 h9 h10
  obtain ⟨seen', e⟩ := inSetV17 (text.getD pos 0) (sn.add 13)
  rw [hc] at e
  have s1 : Sre.M.step ⟨codeV, text, li, start, ls, false, false, 15, pos, hd, om, mk, lm, lx, lo, inn, [f], we, none, sn, none⟩ = ⟨codeV, text, li, start, ls, false, false, 27, pos + 1, hd, om, mk, lm, lx, lo, inn, [f], we, none, seen', none⟩ := by
    show (if pos ≥ li then _ else match Sre.inSet codeV (text.getD pos 0) codeV.size 17 true (sn.add 13) with | .error why => _ | .ok (false, seen) => _ | .ok (true, seen) => _) = _
    rw [if_neg (by omega), e]
    rfl
  have s2 : Sre.M.step ⟨codeV, text, li, start, ls, false, false, 27, pos + 1, hd, om, mk, lm, lx, lo, inn, [f], we, none, seen', none⟩ = ⟨codeV, text, li, start, ls, false, false, 27, pos + 1, pos + 1, om, mk, lm, lx, lo, inn, [f], we, some true, seen'.add 1, none⟩ := by
    show (if (om && ((false && _) || (false && _))) = true then _ else _) = _
    rw [if_neg (by simp)]
    rfl
  obtain ⟨fw, fpc, fpos, fo, fc, fk, fl, fb⟩ := f
  dsimp only at h11
  subst h11
  unfold Sre.M.runFor
  rw [if_neg (by exact Bool.false_ne_true), s1]
  unfold Sre.M.runFor
  rw [if_neg (by exact Bool.false_ne_true), s2]
  rfl
def ctlIn (ctl : Nat → Bool) (t : Array Nat) : Bool := t.any ctl
theorem ctlIn_false {ctl : Nat → Bool} {t : Array Nat} (h : ctlIn ctl t = false) (i : Nat) (hi : i < t.size) : ctl (t.getD i 0) = false := by
  unfold ctlIn at h
  rw [Array.any_eq_false] at h
  have := h i hi
  rw [Array.getD_eq_getD_getElem?, Array.getElem?_eq_getElem hi]
  simpa using this
theorem ctlIn_true {ctl : Nat → Bool} {t : Array Nat} (h : ctlIn ctl t = true) : ∃ i, i < t.size ∧ ctl (t.getD i 0) = true := by
  unfold ctlIn at h
  rw [Array.any_eq_true] at h
  obtain ⟨i, hi, e⟩ := h
  exact ⟨i, hi, by rw [Array.getD_eq_getD_getElem?, Array.getElem?_eq_getElem hi]; simpa using e⟩
theorem outN (t : Array Nat) : ((Sre.forSearch codeN t 0 0 t.size false).runFor 4).outcome = some (if ctlIn isCtlN t then .matched else .failed) := by
  obtain ⟨m, h1, h2, h3, h4, h5, h6, h7, h8, h9, h10, e⟩ := startN t t.size
  rw [e]
  cases hc : ctlIn isCtlN t with
  | false =>
    rw [if_neg Bool.false_ne_true]
    split
    · exact run_failed _ rfl h5 h6
    · obtain ⟨sn, q⟩ := admitted_none oneN m h1 (m.lim + 1 - 0) 0 m.seen (fun i _ hi => by rw [h2]; exact ctlIn_false hc i (by rw [h3] at hi; exact hi))
      rw [q]
      exact run_failed _ rfl h5 h6
  | true =>
    obtain ⟨i, hi, hci⟩ := ctlIn_true hc
    rw [if_pos rfl, if_neg (by rw [Bool.or_eq_true, decide_eq_true_eq, decide_eq_true_eq]; omega)]
    obtain ⟨k, sn, q, hk, hck⟩ := admitted_some oneN m h1 (m.lim + 1 - 0) 0 m.seen (by omega) ⟨i, Nat.zero_le _, by rw [h3]; exact hi, by rw [h2]; exact hci⟩
    rw [q]
    dsimp only
    unfold Sre.M.attemptAt Sre.M.attempt
    rw [if_neg (by show ¬ (m.weight + 1 + 0 > 16777216); rw [h9]; decide)]
    exact stepsN t t.size k (h3 ▸ hk) (h2 ▸ hck) _ h1 h2 h3 h4 h6 h7 rfl h8 rfl _ (by show _ :: m.frames = _; rw [h5]) rfl
theorem outV (t : Array Nat) : ((Sre.forSearch codeV t 0 0 t.size false).runFor 4).outcome = some (if ctlIn isCtlV t then .matched else .failed) := by
  obtain ⟨m, h1, h2, h3, h4, h5, h6, h7, h8, h9, h10, e⟩ := startV t t.size
  rw [e]
  cases hc : ctlIn isCtlV t with
  | false =>
    rw [if_neg Bool.false_ne_true]
    split
    · exact run_failed _ rfl h5 h6
    · obtain ⟨sn, q⟩ := admitted_none oneV m h1 (m.lim + 1 - 0) 0 m.seen (fun i _ hi => by rw [h2]; exact ctlIn_false hc i (by rw [h3] at hi; exact hi))
      rw [q]
      exact run_failed _ rfl h5 h6
  | true =>
    obtain ⟨i, hi, hci⟩ := ctlIn_true hc
    rw [if_pos rfl, if_neg (by rw [Bool.or_eq_true, decide_eq_true_eq, decide_eq_true_eq]; omega)]
    obtain ⟨k, sn, q, hk, hck⟩ := admitted_some oneV m h1 (m.lim + 1 - 0) 0 m.seen (by omega) ⟨i, Nat.zero_le _, by rw [h3]; exact hi, by rw [h2]; exact hci⟩
    rw [q]
    dsimp only
    unfold Sre.M.attemptAt Sre.M.attempt
    rw [if_neg (by show ¬ (m.weight + 1 + 0 > 16777216); rw [h9]; decide)]
    exact stepsV t t.size k (h3 ▸ hk) (h2 ▸ hck) _ h1 h2 h3 h4 h6 h7 rfl h8 rfl _ (by show _ :: m.frames = _; rw [h5]) rfl
end Mine
namespace Mine
open PySem PySem.W PyProof.Rows PySem.Builtin PySem.Builtin.Re

structure PatAt (h : Heap) (P : Addr) (code : Array Nat) : Prop where
  at_ : ∃ a b T its n, h.get? P = some { cls := .type "re.Pattern", data := .fields #[a, b, .int 0 0, .none, .none, .ref T, .int 0 0] } ∧ h.get? T = some { cls := .type "tuple", data := .seq its n } ∧ (its.map reRawOf).map (·.toNat) = code
theorem PatAt.keeps {h h' : Heap} {P : Addr} {code : Array Nat} (x : PatAt h P code) (k : ∀ b o, h.get? b = some o → h'.get? b = some o) : PatAt h' P code := by
  obtain ⟨a, b, T, its, n, h1, h2, h3⟩ := x.at_
  exact ⟨a, b, T, its, n, k _ _ h1, k _ _ h2, h3⟩

section
variable {prog : Program} {w : World} {A : Around} {E : Value → Shared → Prop} {s : Shared}
theorem seen_wp (m : Sre.M) {Q : PUnit → Shared → Prop} (h : Q ⟨⟩ s) : wpAny (model prog w) A (forIn (List.range Sre.names.size) PUnit.unit fun i _ =>
    if m.seen.has i = true then do rule (Sre.names.getD i ""); pure (ForInStep.yield PUnit.unit) else pure (ForInStep.yield PUnit.unit)) Q E s := by
  refine wpAny_forIn_list _ (fun _ _ s' => s' = s) Q (fun x rest b s' e => ?_) (fun b s' e => by rw [e]; exact h) _ _ rfl
  subst e
  split
  · exact wpAny_bind (wpAny_rule (wpAny_pure rfl))
  · exact wpAny_pure rfl
theorem drive_wp {m : Sre.M} {o : Sre.Outcome} {Q : Sre.M → Shared → Prop} (e : (m.runFor 4).outcome = some o) (h : Q (m.runFor 4) s) : wpAny (model prog w) A (reDrive (2 ^ 64) m) Q E s := by
  rw [show (2 ^ 64 : Nat) = (2 ^ 64 - 1) + 1 from by decide]
  unfold reDrive
  show wpAny _ _ (if (m.runFor 4).outcome.isSome = true then pure (m.runFor 4) else _) _ _ _
  rw [e, if_pos (by rfl)]
  exact wpAny_pure h
theorem runToEnd_failed {m : Sre.M} {Q : Option Sre.M → Shared → Prop} (e : (m.runFor 4).outcome = some .failed) (h : Q none s) : wpAny (model prog w) A (reRunToEnd m) Q E s := by
  unfold reRunToEnd
  refine wpAny_bind (drive_wp e ?_)
  refine wpAny_bind (seen_wp _ ?_)
  rw [e]
  exact wpAny_pure h
theorem runToEnd_matched {m : Sre.M} {Q : Option Sre.M → Shared → Prop} (e : (m.runFor 4).outcome = some .matched) (h : Q (some (m.runFor 4)) s) : wpAny (model prog w) A (reRunToEnd m) Q E s := by
  unfold reRunToEnd
  refine wpAny_bind (drive_wp e ?_)
  refine wpAny_bind (seen_wp _ ?_)
  rw [e]
  exact wpAny_pure h
theorem named_search (text : Value) : reNamed "re.Pattern.search" "search" ["string", "pos", "endpos"] 1 [text] [] = pure [some text, none, none] := by rfl

theorem target_wp {P : Addr} {x : Str} {t : Tok} {code : Array Nat} {Q : ReTarget → Shared → Prop} (hP : PatAt s.heap P code) (hx : x.length ≤ 2 ^ 24)
    (h : Q { pattern := .ref P, string := .str x t, code := code, text := x.cps, kind := 0, groups := 0, pos := 0, lim := x.cps.size } s) :
    wpAny (model prog w) A (reTarget "re.Pattern.search" "search" ⟨[.ref P, .str x t], []⟩) Q E s := by
  obtain ⟨a, b, T, its, n, h1, h2, h3⟩ := hP.at_
  unfold reTarget
  show wpAny _ _ (reNamed "re.Pattern.search" "search" ["string", "pos", "endpos"] 1 [.str x t] [] >>= _) _ _ _
  rw [named_search]
  refine wpAny_bind (wpAny_pure ?_)
  refine wpAny_bind (wpAny_pure ?_)
  refine wpAny_bind (wpAny_pure ?_)
  refine wpAny_bind ?_
  unfold fieldsOf
  refine wpAny_bind (wpAny_load h1 (wpAny_pure ?_))
  refine wpAny_bind (wpAny_bind (wpAny_pure (wpAny_pure ?_)))
  dsimp only
  refine wpAny_bind (wpAny_pure ?_)
  refine wpAny_bind ?_
  show wpAny _ _ (do return ((← seqItems? (.ref T)).getD #[]).map reRawOf) _ _ _
  unfold seqItems?
  refine wpAny_bind (wpAny_bind (wpAny_load h2 (wpAny_pure (wpAny_pure (wpAny_pure ?_)))))
  have e0 : min (0 : Int).toNat x.cps.size = 0 := by simp
  have e1 : min ((2 ^ 63 - 1 : Int)).toNat x.cps.size = x.cps.size := by
    have : x.cps.size ≤ 2 ^ 24 := hx
    have e : ((2 ^ 63 - 1 : Int)).toNat = 2 ^ 63 - 1 := by decide
    omega
  show Q { pattern := .ref P, string := .str x t, code := (its.map reRawOf).map (·.toNat), text := x.cps, kind := 0, groups := 0, pos := min (0 : Int).toNat x.cps.size, lim := min ((2 ^ 63 - 1 : Int)).toNat x.cps.size } s
  rw [e0, e1, h3]
  exact h

def matchObj (fs : Array Value) : Obj := { cls := .type "re.Match", data := .fields fs }
def tupObj (vs : Array Value) : Obj := { cls := .type "tuple", data := .seq vs }
theorem search_body {P : Addr} {x : Str} {t : Tok} {code : Array Nat} {ctl : Nat → Bool} {Q : Value → Shared → Prop} (hP : PatAt s.heap P code) (hx : x.length ≤ 2 ^ 24)
    (hout : ((Sre.forSearch code x.cps 0 0 x.cps.size false).runFor 4).outcome = some (if ctlIn ctl x.cps then .matched else .failed))
    (h0 : ctlIn ctl x.cps = false → Q .none s)
    (h1 : ctlIn ctl x.cps = true → ∀ vs fs, Q (.ref (s.heap.objs.size + 1)) { s with heap := (s.heap.push (tupObj vs)).push (matchObj fs) }) :
    wpAny (model prog w) A (Builtin.«re.Pattern.search» ⟨[.ref P, .str x t], []⟩) (fun fin s' => ∃ v, fin = .done (.ret v) ∧ Q v s') E s := by
  unfold Builtin.«re.Pattern.search»
  refine wpAny_bind (target_wp hP hx ?_)
  unfold reAnswer
  dsimp only
  cases hc : ctlIn ctl x.cps with
  | false =>
    rw [hc, if_neg Bool.false_ne_true] at hout
    exact wpAny_bind (runToEnd_failed hout (wpAny_pure ⟨_, rfl, h0 hc⟩))
  | true =>
    rw [hc, if_pos rfl] at hout
    refine wpAny_bind (runToEnd_matched hout ?_)
    dsimp only
    refine wpAny_bind ?_
    unfold reNewMatch
    dsimp only
    refine wpAny_bind ?_
    unfold newTuple
    refine wpAny_newObj_type ?_ (by show List.length _ ≤ sizeLine; simp [List.range_zero]; decide)
    unfold newFields
    refine wpAny_newObj_type ?_ (by show 6 ≤ sizeLine + 2; decide)
    refine wpAny_pure ⟨_, rfl, ?_⟩
    have := h1 hc
    dsimp only
    rw [Heap.size_push]
    exact this _ _

/-- the search of a control sign in a text, as a call -/
theorem search_call {P : Addr} {x : Str} {t : Tok} {code : Array Nat} {ctl : Nat → Bool} {Q : Value → Shared → Prop} (hP : PatAt s.heap P code) (hx : x.length ≤ 2 ^ 24)
    (hout : ((Sre.forSearch code x.cps 0 0 x.cps.size false).runFor 4).outcome = some (if ctlIn ctl x.cps then .matched else .failed))
    (h0 : ctlIn ctl x.cps = false → Q .none s)
    (h1 : ctlIn ctl x.cps = true → ∀ vs fs, Q (.ref (s.heap.objs.size + 1)) { s with heap := (s.heap.push (tupObj vs)).push (matchObj fs) }) :
    wpAny (model prog w) A (call (.builtin "re.Pattern.search") [.ref P, .str x t]) Q E s := by
  have hT : s.TypeIs (.ref P) "re.Pattern" := by
    obtain ⟨a, b, T, its, n, e, _⟩ := hP.at_
    exact ⟨_, e, rfl⟩
  exact wpAny_call_entry slot_search hT entry_search (search_body hP hx hout h0 h1) (args_search _ _)
theorem getMethod_search {P : Addr} {code : Array Nat} {pl : Sem Bool} {Q : Value × List Value → Shared → Prop} (hP : PatAt s.heap P code) (h : Q (.builtin "re.Pattern.search", [.ref P]) s) :
    wpAny (model prog w) A (getMethod (.ref P) "search" pl) Q E s := by
  obtain ⟨a, b, T, its, n, e, _⟩ := hP.at_
  exact getMethod_builtin (T := "re.Pattern") ⟨_, e, rfl⟩ plain_pattern slot_search type_search (fun a' e' => by cases e'; exact ⟨_, e, rfl⟩) h
theorem nobool_match : typeLookup (.type "re.Match") "__bool__" = pure none := by rw [typeLookup_type, builtinLookup_eq_fast]; kernel_rfl
theorem nolen_match : typeLookup (.type "re.Match") "__len__" = pure none := by rw [typeLookup_type, builtinLookup_eq_fast]; kernel_rfl
theorem truthy_match {a : Addr} {fs : Array Value} {Q : Bool → Shared → Prop} (ha : s.heap.get? a = some (matchObj fs)) (h : Q true s) : wpAny (model prog w) A (truthy (.ref a)) Q E s := by
  have hT : s.TypeIs (.ref a) "re.Match" := ⟨_, ha, rfl⟩
  unfold truthy
  dsimp only
  refine wpAny_bind (wpAny_callSpecial?_none hT nobool_match ?_)
  dsimp only
  refine wpAny_bind (wpAny_specialOf hT nolen_match ?_)
  exact wpAny_pure h
end
end Mine
namespace Mine
def upd (l : Addr) (o : Obj) (news : List (Addr × Obj)) : List (Addr × Obj) := news.map fun p => if p.1 = l then (l, o) else p
theorem mem_upd_self {l : Addr} {o o' : Obj} {news : List (Addr × Obj)} (h : (l, o) ∈ news) : (l, o') ∈ upd l o' news := by
  unfold upd
  rw [List.mem_map]
  exact ⟨_, h, by simp⟩
theorem mem_upd {l a : Addr} {o o' : Obj} {news : List (Addr × Obj)} (h : (a, o) ∈ news) (hne : a ≠ l) : (a, o) ∈ upd l o' news := by
  unfold upd
  rw [List.mem_map]
  exact ⟨_, h, by simp [hne]⟩
theorem news_upd {h₀ h h' : Heap} {L l : Addr} {o o' : Obj} {news : List (Addr × Obj)} (N : News h₀ L h news) (hl : (l, o) ∈ news) (hs : Heap.SameBut l h h') (ho : h'.get? l = some o') : News h₀ L h' (upd l o' news) := by
  intro p hp
  unfold upd at hp
  rw [List.mem_map] at hp
  obtain ⟨q, hq, rfl⟩ := hp
  by_cases e : q.1 = l
  · rw [if_pos e]
    exact ⟨ho, (N _ hl).2⟩
  · rw [if_neg e]
    exact ⟨(hs.2 _ e).trans (N _ hq).1, (N _ hq).2⟩
theorem news_ne {h₀ h : Heap} {L a b : Addr} {o₁ o₂ : Obj} {news : List (Addr × Obj)} (N : News h₀ L h news) (h1 : (a, o₁) ∈ news) (h2 : (b, o₂) ∈ news) (hne : o₁.cls ≠ o₂.cls) : a ≠ b := by
  rintro rfl
  have e1 := (N _ h1).1
  rw [(N _ h2).1] at e1
  exact hne (congrArg Obj.cls (Option.some.inj e1).symm)
theorem news_mono {h₀ h : Heap} {L : Addr} {news news' : List (Addr × Obj)} (N : News h₀ L h news) (hs : ∀ p ∈ news', p ∈ news) : News h₀ L h news' := fun p hp => N p (hs p hp)

theorem cons_sub {p : Addr × Obj} {a b : List (Addr × Obj)} (h : p ∈ b) (hs : ∀ q ∈ a, q ∈ b) : ∀ q ∈ p :: a, q ∈ b := fun q hq => (List.mem_cons.mp hq).elim (fun e => e ▸ h) (hs q)
section
variable {prog : Program} {w : World} {A : Around} {E : Value → Shared → Prop} {s : Shared} {h₀ : Heap} {L l : Addr} {m : Str → Option Value} {news : List (Addr × Obj)}
theorem append_L {its : Array Value} {n : Nat} {x : Value} {Q : Value → Shared → Prop} (F : Fr h₀ L s.heap m) (N : News h₀ L s.heap news) (hl : (l, listOf its n) ∈ news)
    (h : ∀ h', Fr h₀ L h' m → News h₀ L h' (upd l (listOf (its.push x) (n + 1)) news) → Q .none { s with heap := h' }) (hsz : its.size ≤ sizeLine) : wpAny (model prog w) A (call (.builtin "list.append") [.ref l, x]) Q E s := by
  have z := N _ hl
  exact append_at (hsz := hsz) z.1 fun h' hs ho' => h h' (F.change hs z.2.1 z.2.2) (news_upd N hl hs ho')
end
end Mine
namespace Mine
def Hold (P : Prop) : Prop := P
theorem hold_intro {P : Prop} (h : Hold P) : P := h
theorem hold_elim {P : Prop} (h : P) : Hold P := h
theorem all_ne_of_lt {news : List (Addr × Obj)} {L d : Addr} (h : ∀ p ∈ news, p.1 < L) (hd : L ≤ d) : ∀ p ∈ news, p.1 ≠ d := fun p hp e => by have := h p hp; rw [e] at this; exact absurd (Nat.lt_of_lt_of_le this hd) (Nat.lt_irrefl _)
end Mine
namespace Mine
section
variable {prog : Program} {w : World} {A : Around} {E : Value → Shared → Prop} {s : Shared} {h₀ : Heap} {L l : Addr} {m : Str → Option Value} {news : List (Addr × Obj)} {env : Env}

theorem news_keep {h h' : Heap} (N : News h₀ L h news) (k : ∀ b o, h.get? b = some o → h'.get? b = some o) : News h₀ L h' news := fun p hp => ⟨k _ _ (N p hp).1, (N p hp).2⟩
theorem listAll_of {vs : List Value} {its : Array Value} (hlen : vs.length = its.size) (hP : ∀ (j : Nat) v, vs[j]? = some v → its[j]? = some v) : vs = its.toList := by
  apply List.ext_getElem?
  intro j
  cases e : vs[j]? with
  | some v => rw [Array.getElem?_toList, hP j v e]
  | none =>
    have : vs.length ≤ j := List.getElem?_eq_none_iff.mp e
    rw [Array.getElem?_toList]
    symm
    rw [Array.getElem?_eq_none_iff]
    omega

/-- a comprehension over a list of the ledger, its test and its element quiet -/
theorem comp_tail {its : Array Value} {n : Nat} {scope : Scope} {cl : List (Str × Addr)} {x : Str} {ifs : List Expr} {elt : Expr} {p : Value → Bool} {Fm : Value → Value → Prop} {Q : Value → Shared → Prop}
    (hh : A.handled = none) (F : Fr h₀ L s.heap m) (N : News h₀ L s.heap news) (hl : (l, listOf its n) ∈ news) (hsz : its.size ≤ sizeLine)
    (hq : ∀ s₂ : Shared, (∃ o, s₂ = { s with heap := s.heap.push o }) → Fr h₀ L s₂.heap m → News h₀ L s₂.heap news → QuietOnC prog w A env scope cl x ifs elt [s.heap.objs.size] (fun i v => its[i]? = some v) p Fm s₂)
    (hQ : ∀ D h' tk ys k, Fr h₀ L h' m → News h₀ L h' ((D, listOf ys k) :: news) → Paired Fm (its.toList.filter p) ys.toList → (∀ q ∈ news, q.1 ≠ D) → (∀ b o, s.heap.get? b = some o → h'.get? b = some o) → Q (.ref D) { s with heap := h', toks := tk }) :
    wpAny (model prog w) A (pyIter (.ref l)) (fun it s₂ => ∃ I fp wr n P St, it = .ref I ∧ Walks prog w A I fp wr n P St ∧ n ≤ sizeLine ∧ St 0 s₂.heap ∧ (∀ b ∈ fp, b < s₂.heap.objs.size) ∧
      QuietOnC prog w A env scope cl x ifs elt wr P p Fm s₂ ∧
      (∀ D h' tk ys (vs : List Value), s₂.heap.get? D = none → h'.IsList D ys → h'.PlainList D ys → vs.length = n → (∀ j v, vs[j]? = some v → P j v) → Paired Fm (vs.filter p) ys.toList →
        (∀ b o, b ∉ wr → s₂.heap.get? b = some o → h'.get? b = some o) → Q (.ref D) { s₂ with heap := h', toks := tk })) E s := by
  have z := N _ hl
  have hL : s.heap.IsList l its := ⟨_, z.1, rfl, n, rfl⟩
  have hlt := Heap.lt_size z.1
  refine wpAny_pyIter_list hL ?_
  have up : ∀ b o, s.heap.get? b = some o → (s.heap.push { cls := .type "list_iterator", data := .fields #[.ref l, .int 0 0] }).get? b = some o := fun b o e => Heap.get?_push_of_some _ e
  refine ⟨_, _, _, _, _, _, rfl, Walks.list hh s.heap.objs.size l (Nat.ne_of_lt hlt) its, hsz, ⟨⟨_, Heap.get?_push_size _ rfl, rfl, rfl⟩, hL.push _⟩, ?_, hq _ ⟨_, rfl⟩ (F.push _) (news_keep N up), ?_⟩
  · intro b hb
    show b < (s.heap.push _).objs.size
    rw [Heap.size_push]
    rcases List.mem_cons.mp hb with rfl | hb
    · exact Nat.lt_succ_self _
    · rw [List.mem_singleton.mp hb]; exact Nat.lt_succ_of_lt hlt
  · intro D h' tk ys vs hD hlD hpl hlen hP hF hk
    have ev := listAll_of hlen hP
    subst ev
    have keep : ∀ b o, s.heap.get? b = some o → h'.get? b = some o := fun b o e => hk b o (fun hm => by
      rw [List.mem_singleton.mp hm] at e
      exact absurd (Heap.lt_size e) (Nat.lt_irrefl _)) (up b o e)
    have hD' : s.heap.get? D = none := by
      cases e : s.heap.get? D with
      | none => rfl
      | some o => rw [up D o e] at hD; cases hD
    obtain ⟨k, hpl⟩ := hpl
    refine hQ D h' tk ys k (F.keeps keep) (fun q hq => ?_) hF (fun q hq e => ?_) keep
    · rcases List.mem_cons.mp hq with rfl | hq
      · refine ⟨hpl, ?_, ?_⟩
        · rintro rfl
          obtain ⟨oL, _, _, e, _⟩ := F.ns
          rw [hD'] at e; cases e
        · cases e : h₀.get? D with
          | none => rfl
          | some o => rw [F.keep _ _ e] at hD'; cases hD'
      · exact news_keep N keep q hq
    · have := (N q hq).1
      rw [e, hD'] at this; cases this
end
end Mine
namespace Mine
def nameOf : Obj → Option Str
  | ⟨_, _, .seq xs _, _⟩ => (match xs[0]? with
    | some (Value.str nm _) => some nm
    | _ => none)
  | _ => none
def nameAt (h : Heap) (v : Value) : Option Str := match v with
  | .ref t => (h.get? t).bind nameOf
  | _ => none
def pairObj (nm : Str) (tk : Tok) (val : Value) : Obj := { cls := .type "tuple", data := .seq #[.str nm tk, val] }
theorem nameAt_pair {h : Heap} {t : Addr} {nm : Str} {tk : Tok} {val : Value} (e : h.get? t = some (pairObj nm tk val)) : nameAt h (.ref t) = some nm := by
  unfold nameAt
  simp only [e]
  rfl
/-- the test «lower of the first sign's name is not the key» -/
def notKey (h : Heap) (key : Str) (v : Value) : Bool := match nameAt h v with
  | some nm => !(Txt.lower nm == key)
  | none => true
def isKey (h : Heap) (key : Str) (v : Value) : Bool := match nameAt h v with
  | some nm => Txt.lower nm == key
  | none => false
/-- the items are pairs of a text and a value, each text short -/
def Pairs (h : Heap) (its : List Value) (ps : List (Str × Value)) : Prop := Paired (fun v q => ∃ t tk, v = .ref t ∧ h.get? t = some (pairObj q.1 tk q.2) ∧ q.1.length ≤ 1000) its ps
theorem Pairs.keeps {h h' : Heap} {its : List Value} {ps : List (Str × Value)} (P : Pairs h its ps) (k : ∀ b o, h.get? b = some o → h'.get? b = some o) : Pairs h' its ps := by
  unfold Pairs at *
  induction P with
  | nil => exact .nil
  | cons a _ ih =>
    obtain ⟨t, tk, e1, e2, e3⟩ := a
    exact .cons ⟨t, tk, e1, k _ _ e2, e3⟩ ih
theorem Pairs.at_ {h : Heap} {its : List Value} {ps : List (Str × Value)} (P : Pairs h its ps) : ∀ (i : Nat) v, its[i]? = some v → ∃ t nm tk val, v = .ref t ∧ h.get? t = some (pairObj nm tk val) ∧ nm.length ≤ 1000 ∧ ps[i]? = some (nm, val) := by
  unfold Pairs at P
  induction P with
  | nil => intro i v e; simp at e
  | cons a _ ih =>
    intro i v e
    cases i with
    | zero =>
      simp only [List.getElem?_cons_zero, Option.some.injEq] at e
      subst e
      obtain ⟨t, tk, e1, e2, e3⟩ := a
      exact ⟨t, _, tk, _, e1, e2, e3, rfl⟩
    | succ i =>
      simp only [List.getElem?_cons_succ] at e ⊢
      exact ih i v e
theorem Pairs.notKey {h : Heap} {its : List Value} {ps : List (Str × Value)} {key : Str} (P : Pairs h its ps) : Pairs h (its.filter (notKey h key)) (ps.filter fun q => !(Txt.lower q.1 == key)) := by
  unfold Pairs at *
  induction P with
  | nil => exact .nil
  | @cons v q _ _ a _ ih =>
    obtain ⟨t, tk, e1, e2, e3⟩ := a
    have e : Mine.notKey h key v = !(Txt.lower q.1 == key) := by
      subst e1
      unfold Mine.notKey
      rw [nameAt_pair e2]
    rw [List.filter_cons, List.filter_cons, e]
    cases (!(Txt.lower q.1 == key)) with
    | true => exact .cons ⟨t, tk, e1, e2, e3⟩ ih
    | false => exact ih
theorem Pairs.length {h : Heap} {its : List Value} {ps : List (Str × Value)} (P : Pairs h its ps) : its.length = ps.length := by
  unfold Pairs at P
  induction P with
  | nil => rfl
  | cons _ _ ih => rw [List.length_cons, List.length_cons, ih]

/-- the same by the ledger -/
def PairsN (news : List (Addr × Obj)) (its : List Value) (ps : List (Str × Value)) : Prop := Paired (fun v q => ∃ t tk, v = .ref t ∧ (t, pairObj q.1 tk q.2) ∈ news ∧ q.1.length ≤ 1000) its ps
theorem Paired.imp {α β : Type} {F G : α → β → Prop} {a : List α} {b : List β} (h : Paired F a b) (k : ∀ x y, F x y → G x y) : Paired G a b := by
  induction h with
  | nil => exact .nil
  | cons x _ ih => exact .cons (k _ _ x) ih
theorem PairsN.mono {news news' : List (Addr × Obj)} {its : List Value} {ps : List (Str × Value)} (P : PairsN news its ps) (k : ∀ p ∈ news, p ∈ news') : PairsN news' its ps :=
  Paired.imp P fun _ _ ⟨t, tk, e1, e2, e3⟩ => ⟨t, tk, e1, k _ e2, e3⟩
theorem PairsN.here {h₀ h : Heap} {L : Addr} {news : List (Addr × Obj)} {its : List Value} {ps : List (Str × Value)} (P : PairsN news its ps) (N : News h₀ L h news) : Pairs h its ps :=
  Paired.imp P fun _ _ ⟨t, tk, e1, e2, e3⟩ => ⟨t, tk, e1, (N _ e2).1, e3⟩
theorem PairsN.upd {h₀ h : Heap} {L l : Addr} {o o' : Obj} {news : List (Addr × Obj)} {its : List Value} {ps : List (Str × Value)} (P : PairsN news its ps) (N : News h₀ L h news) (hl : (l, o) ∈ news) (ho : o.cls ≠ .type "tuple") : PairsN (upd l o' news) its ps :=
  Paired.imp P fun _ _ ⟨t, tk, e1, e2, e3⟩ => ⟨t, tk, e1, mem_upd e2 (news_ne N e2 hl fun e => ho e.symm), e3⟩
theorem PairsN.notKey {h₀ h : Heap} {L : Addr} {news : List (Addr × Obj)} {its : List Value} {ps : List (Str × Value)} {key : Str} (P : PairsN news its ps) (N : News h₀ L h news) : PairsN news (its.filter (notKey h key)) (ps.filter fun q => !(Txt.lower q.1 == key)) := by
  unfold PairsN at *
  induction P with
  | nil => exact .nil
  | @cons v q _ _ a _ ih =>
    obtain ⟨t, tk, e1, e2, e3⟩ := a
    have e : Mine.notKey h key v = !(Txt.lower q.1 == key) := by
      subst e1
      unfold Mine.notKey
      rw [nameAt_pair (N _ e2).1]
    rw [List.filter_cons, List.filter_cons, e]
    cases (!(Txt.lower q.1 == key)) with
    | true => exact .cons ⟨t, tk, e1, e2, e3⟩ ih
    | false => exact ih
theorem PairsN.length {news : List (Addr × Obj)} {its : List Value} {ps : List (Str × Value)} (P : PairsN news its ps) : its.length = ps.length := by
  unfold PairsN at P
  induction P with
  | nil => rfl
  | cons _ _ ih => rw [List.length_cons, List.length_cons, ih]
theorem PairsN.snoc {news : List (Addr × Obj)} {its : List Value} {ps : List (Str × Value)} {t : Addr} {nm : Str} {tk : Tok} {v : Value} (P : PairsN news its ps) (h : (t, pairObj nm tk v) ∈ news) (hl : nm.length ≤ 1000) : PairsN news (its ++ [.ref t]) (ps ++ [(nm, v)]) :=
  PySem.Paired.snoc P ⟨t, tk, rfl, h, hl⟩
theorem PairsN.at_ {news : List (Addr × Obj)} {its : List Value} {ps : List (Str × Value)} (P : PairsN news its ps) : ∀ (i : Nat) v, its[i]? = some v → ∃ t nm tk val, v = .ref t ∧ (t, pairObj nm tk val) ∈ news ∧ nm.length ≤ 1000 ∧ ps[i]? = some (nm, val) := by
  unfold PairsN at P
  induction P with
  | nil => intro i v e; simp at e
  | cons a _ ih =>
    intro i v e
    cases i with
    | zero =>
      simp only [List.getElem?_cons_zero, Option.some.injEq] at e
      subst e
      obtain ⟨t, tk, e1, e2, e3⟩ := a
      exact ⟨t, _, tk, _, e1, e2, e3, rfl⟩
    | succ i =>
      simp only [List.getElem?_cons_succ] at e ⊢
      exact ih i v e
theorem eq_cps (a b : Str) : (a.cps.toList == b.cps.toList) = (a == b) := by
  obtain ⟨⟨x⟩⟩ := a
  obtain ⟨⟨y⟩⟩ := b
  by_cases h : x = y
  · subst h; simp
  · have h1 : (Str.mk ⟨x⟩ == Str.mk ⟨y⟩) = false := by
      rw [beq_eq_false_iff_ne]
      intro e
      injection e with e
      injection e with e
      exact h e
    rw [h1]
    simpa using h
theorem ne_cps (a b : Str) : (a.cps.toList != b.cps.toList) = !(a == b) := by
  rw [← eq_cps]; rfl
section
variable {prog : Program} {w : World} {A : Around} {h₀ : Heap} {L l : Addr} {m : Str → Option Value} {news : List (Addr × Obj)} {env : Env}
theorem quiet_del {pl : Sem Bool} {scope : Scope} {cl : List (Str × Addr)} {p0 p1 p2 p3 p4 p5 p6 p7 : Pos} {its : Array Value} {ps : List (Str × Value)} {I c : Addr} {oc : Obj} {key : Str} {tkk : Tok} {s₂ : Shared} {H : Heap}
    (hk : ∀ C, (compEnvC scope cl C env).scope.kind = .function) (hv : ∀ C, (compEnvC scope cl C env).kindOf (Str.ofString "kv") = some .local) (hn : ∀ C, (compEnvC scope cl C env).kindOf (Str.ofString "name") = some .cell)
    (hcl : cl.lookup (Str.ofString "name") = some c) (hc : H.get? c = some oc) (hoc : oc.data = .cell (some (.str key tkk)))
    (hcall : ∀ C, eval (.Call (.Attribute (.Subscript (.Name (Str.ofString "kv") p1) (.Constant (.int 0) 0 p2) p3) (Str.ofString "lower") p4) [] [] p5) (compEnvC scope cl C env) = (do
      let ov ← eval (.Subscript (.Name (Str.ofString "kv") p1) (.Constant (.int 0) 0 p2) p3) (compEnvC scope cl C env)
      standAt p4.atName
      let (f, first) ← holding [ov] (getMethod ov (Str.ofString "lower") pl)
      callWith p5 f first (backTo p5 (starEach [] (compEnvC scope cl C env))) []))
    (P : Pairs H its.toList ps) (kH : ∀ b o, H.get? b = some o → s₂.heap.get? b = some o) (hI : ∀ t o, H.get? t = some o → t ≠ I) :
    QuietOnC prog w A env scope cl (Str.ofString "kv") [.Compare (.Call (.Attribute (.Subscript (.Name (Str.ofString "kv") p1) (.Constant (.int 0) 0 p2) p3) (Str.ofString "lower") p4) [] [] p5) [.NotEq] [.Name (Str.ofString "name") p6] p7] (.Name (Str.ofString "kv") p0) [I] (fun i v => its[i]? = some v) (notKey H key) (fun v y => y = v) s₂ := by
  refine ⟨fun C i v s₃ m₃ E' hC hP hn₃ hm₃ hk₃ _ => ?_, fun C i v s₃ m₃ E' hC hP _ hn₃ hm₃ hk₃ _ => ?_⟩
  · obtain ⟨t, nm, tk, val, rfl, ht, hsm, _⟩ := P.at_ i v (by rw [Array.getElem?_toList]; exact hP)
    have ht₃ := hk₃ t _ (fun e => hI t _ ht (List.mem_singleton.mp e)) (kH _ _ ht)
    have hc₃ := hk₃ c _ (fun e => hI c _ hc (List.mem_singleton.mp e)) (kH _ _ hc)
    have hT : IsTup s₃.heap t #[.str nm tk, val] := ⟨_, ht₃, rfl, 0, rfl⟩
    refine wpAny_tests_one (wpAny_isTrue_Compare1 ?_)
    refine MethodCall_ ?_ (hcall C)
    refine Subscript_ ?_
    refine wpAny_Name (wpAny_loadName_local (hk C) (hv C) hn₃ hm₃ ?_)
    refine wpAny_Constant_int ?_
    refine item_tupleT (l := [.str nm tk, val]) hT (by decide) (by decide) rfl rfl ?_
    refine GM.lower ?_
    refine callWith_method0 ?_
    refine SCL.lower (by omega) fun _ => ?_
    refine wpAny_Name (wpAny_loadName_cell (hk C) (hn C) hcl ⟨oc, hc₃, hoc⟩ ?_)
    refine ne_str ?_
    refine wpAny_truthy_bool ⟨?_, ⟨_, _, rfl, fun _ _ e => e⟩⟩
    unfold notKey
    rw [nameAt_pair ht]
    rfl
  · refine wpAny_Name (wpAny_loadName_local (hk C) (hv C) hn₃ hm₃ ?_)
    exact ⟨rfl, ⟨_, _, rfl, fun _ _ e => e⟩⟩
theorem quiet_get {pl : Sem Bool} {scope : Scope} {cl : List (Str × Addr)} {p8 p9 p0 p1 p2 p3 p4 p5 p6 p7 : Pos} {its : Array Value} {ps : List (Str × Value)} {I c : Addr} {oc : Obj} {key : Str} {tkk : Tok} {s₂ : Shared} {H : Heap}
    (hk : ∀ C, (compEnvC scope cl C env).scope.kind = .function) (hv : ∀ C, (compEnvC scope cl C env).kindOf (Str.ofString "kv") = some .local) (hn : ∀ C, (compEnvC scope cl C env).kindOf (Str.ofString "name") = some .cell)
    (hcl : cl.lookup (Str.ofString "name") = some c) (hc : H.get? c = some oc) (hoc : oc.data = .cell (some (.str key tkk)))
    (hcall : ∀ C, eval (.Call (.Attribute (.Subscript (.Name (Str.ofString "kv") p1) (.Constant (.int 0) 0 p2) p3) (Str.ofString "lower") p4) [] [] p5) (compEnvC scope cl C env) = (do
      let ov ← eval (.Subscript (.Name (Str.ofString "kv") p1) (.Constant (.int 0) 0 p2) p3) (compEnvC scope cl C env)
      standAt p4.atName
      let (f, first) ← holding [ov] (getMethod ov (Str.ofString "lower") pl)
      callWith p5 f first (backTo p5 (starEach [] (compEnvC scope cl C env))) []))
    (P : Pairs H its.toList ps) (kH : ∀ b o, H.get? b = some o → s₂.heap.get? b = some o) (hI : ∀ t o, H.get? t = some o → t ≠ I) :
    QuietOnC prog w A env scope cl (Str.ofString "kv") [.Compare (.Call (.Attribute (.Subscript (.Name (Str.ofString "kv") p1) (.Constant (.int 0) 0 p2) p3) (Str.ofString "lower") p4) [] [] p5) [.Eq] [.Name (Str.ofString "name") p6] p7] (.Subscript (.Name (Str.ofString "kv") p8) (.Constant (.int 1) 0 p9) p0) [I] (fun i v => its[i]? = some v) (isKey H key) (fun v y => ∃ t nm tk, v = .ref t ∧ H.get? t = some (pairObj nm tk y)) s₂ := by
  refine ⟨fun C i v s₃ m₃ E' hC hP hn₃ hm₃ hk₃ _ => ?_, fun C i v s₃ m₃ E' hC hP _ hn₃ hm₃ hk₃ _ => ?_⟩
  · obtain ⟨t, nm, tk, val, rfl, ht, hsm, _⟩ := P.at_ i v (by rw [Array.getElem?_toList]; exact hP)
    have ht₃ := hk₃ t _ (fun e => hI t _ ht (List.mem_singleton.mp e)) (kH _ _ ht)
    have hc₃ := hk₃ c _ (fun e => hI c _ hc (List.mem_singleton.mp e)) (kH _ _ hc)
    have hT : IsTup s₃.heap t #[.str nm tk, val] := ⟨_, ht₃, rfl, 0, rfl⟩
    refine wpAny_tests_one (wpAny_isTrue_Compare1 ?_)
    refine MethodCall_ ?_ (hcall C)
    refine Subscript_ ?_
    refine wpAny_Name (wpAny_loadName_local (hk C) (hv C) hn₃ hm₃ ?_)
    refine wpAny_Constant_int ?_
    refine item_tupleT (l := [.str nm tk, val]) hT (by decide) (by decide) rfl rfl ?_
    refine GM.lower ?_
    refine callWith_method0 ?_
    refine SCL.lower (by omega) fun _ => ?_
    refine wpAny_Name (wpAny_loadName_cell (hk C) (hn C) hcl ⟨oc, hc₃, hoc⟩ ?_)
    refine eq_str ?_
    refine wpAny_truthy_bool ⟨?_, ⟨_, _, rfl, fun _ _ e => e⟩⟩
    unfold isKey
    rw [nameAt_pair ht]
  · obtain ⟨t, nm, tk, val, rfl, ht, hsm, _⟩ := P.at_ i v (by rw [Array.getElem?_toList]; exact hP)
    have ht₃ := hk₃ t _ (fun e => hI t _ ht (List.mem_singleton.mp e)) (kH _ _ ht)
    have hT : IsTup s₃.heap t #[.str nm tk, val] := ⟨_, ht₃, rfl, 0, rfl⟩
    refine Subscript_ ?_
    refine wpAny_Name (wpAny_loadName_local (hk C) (hv C) hn₃ hm₃ ?_)
    refine wpAny_Constant_int ?_
    refine item_tupleT (l := [.str nm tk, val]) hT (by decide) (by decide) rfl rfl ?_
    exact ⟨⟨t, nm, tk, rfl, ht⟩, ⟨_, _, rfl, fun _ _ e => e⟩⟩

theorem paired_eq {l₁ l₂ : List Value} (h : Paired (fun v y => y = v) l₁ l₂) : l₂ = l₁ := by
  induction h with
  | nil => rfl
  | cons a _ ih => rw [a, ih]
theorem ListComp_del {E : Value → Shared → Prop} {s : Shared} {pl : Sem Bool} {scope : Scope} {cl : List (Str × Addr)} {p0 p1 p2 p3 p4 p5 p6 p7 px pos : Pos} {iter : Expr} {its : Array Value} {n : Nat} {ps : List (Str × Value)} {c : Addr} {oc : Obj} {key : Str} {tkk : Tok} {Q : Value → Shared → Prop}
    (hh : A.handled = none) (F : Fr h₀ L s.heap m) (N : News h₀ L s.heap news) (hl : (l, listOf its n) ∈ news) (hsz : its.size ≤ sizeLine) {n0 : List (Addr × Obj)} (P : PairsN n0 its.toList ps) (hn0 : ∀ p ∈ n0, p ∈ news)
    (hcn : (c, oc) ∈ news) (hoc : oc.data = .cell (some (.str key tkk)))
    (hclos : closureFor scope env = pure cl) (hcell : ∀ y ∈ scope.names, y.2 ≠ .cell) (hkind : scope.kind = .function)
    (hnames : ∀ y ∈ scope.names, y.2 = .local → scope.names.lookup y.1 = some .local) (hx : scope.names.lookup (Str.ofString "kv") = some .local)
    (hk : ∀ C, (compEnvC scope cl C env).scope.kind = .function) (hv : ∀ C, (compEnvC scope cl C env).kindOf (Str.ofString "kv") = some .local) (hn : ∀ C, (compEnvC scope cl C env).kindOf (Str.ofString "name") = some .cell)
    (hcl : cl.lookup (Str.ofString "name") = some c)
    (hcall : ∀ C, eval (.Call (.Attribute (.Subscript (.Name (Str.ofString "kv") p1) (.Constant (.int 0) 0 p2) p3) (Str.ofString "lower") p4) [] [] p5) (compEnvC scope cl C env) = (do
      let ov ← eval (.Subscript (.Name (Str.ofString "kv") p1) (.Constant (.int 0) 0 p2) p3) (compEnvC scope cl C env)
      standAt p4.atName
      let (f, first) ← holding [ov] (getMethod ov (Str.ofString "lower") pl)
      callWith p5 f first (backTo p5 (starEach [] (compEnvC scope cl C env))) []))
    (hs : ∀ x, foldedSetIterable iter env x = pure x)
    (hiter : ∀ Q' : Value → Shared → Prop, (∀ tk, Q' (.ref l) { s with toks := tk }) → wpAny (model prog w) A (eval iter env) Q' E s)
    (hQ : ∀ D h' tk k ys, Fr h₀ L h' m → News h₀ L h' ((D, listOf ys k) :: news) → (∀ q ∈ news, q.1 ≠ D) →
      PairsN n0 ys.toList (ps.filter fun q => !(Txt.lower q.1 == key)) → ys.size ≤ its.size → Q (.ref D) { s with heap := h', toks := tk }) :
    wpAny (model prog w) A (eval (.ListComp (.Name (Str.ofString "kv") p0) [⟨.Name (Str.ofString "kv") px, iter, [.Compare (.Call (.Attribute (.Subscript (.Name (Str.ofString "kv") p1) (.Constant (.int 0) 0 p2) p3) (Str.ofString "lower") p4) [] [] p5) [.NotEq] [.Name (Str.ofString "name") p6] p7], 0⟩] scope pos) env) Q E s := by
  refine wpAny_ListComp_free (notKey s.heap key) (fun v y => y = v) hclos hcell hkind hnames hx (hiter _ fun tk => ?_) hs
  refine comp_tail (s := { s with toks := tk }) hh F N hl hsz (fun s₂ ⟨o, e⟩ F₂ N₂ => ?_) (fun D h' tk' ys k F' N' hP hD keep => ?_)
  · refine quiet_del hk hv hn hcl (N _ hcn).1 hoc hcall (P.here (news_mono N hn0)) (fun b o' e' => ?_) (fun t o' e' => Nat.ne_of_lt (Heap.lt_size e'))
    rw [e]
    exact Heap.get?_push_of_some _ e'
  · have ey := paired_eq hP
    refine hQ D h' tk' k ys F' N' hD ?_ ?_
    · rw [ey]; exact P.notKey (news_mono N hn0)
    · have := List.length_filter_le (notKey s.heap key) its.toList
      rw [← ey] at this
      simpa using this

/-- the values of the items whose name is the key -/
theorem vals_of {h : Heap} {key : Str} {its ys : List Value} {ps : List (Str × Value)} (P : PairsN news its ps) (N : News h₀ L h news)
    (hy : Paired (fun v y => ∃ t nm tk, v = .ref t ∧ h.get? t = some (pairObj nm tk y)) (its.filter (isKey h key)) ys) : ys = (ps.filter fun q => Txt.lower q.1 == key).map (·.2) := by
  unfold PairsN at P
  induction P generalizing ys with
  | nil => cases hy; rfl
  | @cons v q _ _ a _ ih =>
    obtain ⟨t, tk, e1, e2, e3⟩ := a
    have et := (N _ e2).1
    have e : isKey h key v = (Txt.lower q.1 == key) := by
      subst e1
      unfold isKey
      rw [nameAt_pair et]
    rw [List.filter_cons, e] at hy
    rw [List.filter_cons]
    cases hb : (Txt.lower q.1 == key) with
    | true =>
      rw [hb, if_pos rfl] at hy
      rw [if_pos rfl]
      cases hy with
      | @cons _ b _ _ a r =>
        obtain ⟨t', nm', tk', f1, f2⟩ := a
        rw [e1] at f1
        cases f1
        rw [et] at f2
        have : q.2 = b := by
          have := congrArg Obj.data (Option.some.inj f2)
          simp only [pairObj, Data.seq.injEq, Array.mk.injEq, List.cons.injEq, and_true] at this
          exact this.2
        rw [List.map_cons, this, ih r]
    | false =>
      rw [hb, if_neg Bool.false_ne_true] at hy
      rw [if_neg Bool.false_ne_true]
      exact ih hy
theorem ListComp_get {E : Value → Shared → Prop} {s : Shared} {pl : Sem Bool} {scope : Scope} {cl : List (Str × Addr)} {p0 p1 p2 p3 p4 p5 p6 p7 p8 p9 px pos : Pos} {iter : Expr} {its : Array Value} {n : Nat} {ps : List (Str × Value)} {c : Addr} {oc : Obj} {key : Str} {tkk : Tok} {Q : Value → Shared → Prop}
    (hh : A.handled = none) (F : Fr h₀ L s.heap m) (N : News h₀ L s.heap news) (hl : (l, listOf its n) ∈ news) (hsz : its.size ≤ sizeLine) {n0 : List (Addr × Obj)} (P : PairsN n0 its.toList ps) (hn0 : ∀ p ∈ n0, p ∈ news)
    (hcn : (c, oc) ∈ news) (hoc : oc.data = .cell (some (.str key tkk)))
    (hclos : closureFor scope env = pure cl) (hcell : ∀ y ∈ scope.names, y.2 ≠ .cell) (hkind : scope.kind = .function)
    (hnames : ∀ y ∈ scope.names, y.2 = .local → scope.names.lookup y.1 = some .local) (hx : scope.names.lookup (Str.ofString "kv") = some .local)
    (hk : ∀ C, (compEnvC scope cl C env).scope.kind = .function) (hv : ∀ C, (compEnvC scope cl C env).kindOf (Str.ofString "kv") = some .local) (hn : ∀ C, (compEnvC scope cl C env).kindOf (Str.ofString "name") = some .cell)
    (hcl : cl.lookup (Str.ofString "name") = some c)
    (hcall : ∀ C, eval (.Call (.Attribute (.Subscript (.Name (Str.ofString "kv") p1) (.Constant (.int 0) 0 p2) p3) (Str.ofString "lower") p4) [] [] p5) (compEnvC scope cl C env) = (do
      let ov ← eval (.Subscript (.Name (Str.ofString "kv") p1) (.Constant (.int 0) 0 p2) p3) (compEnvC scope cl C env)
      standAt p4.atName
      let (f, first) ← holding [ov] (getMethod ov (Str.ofString "lower") pl)
      callWith p5 f first (backTo p5 (starEach [] (compEnvC scope cl C env))) []))
    (hs : ∀ x, foldedSetIterable iter env x = pure x)
    (hiter : ∀ Q' : Value → Shared → Prop, (∀ tk, Q' (.ref l) { s with toks := tk }) → wpAny (model prog w) A (eval iter env) Q' E s)
    (hQ : ∀ D h' tk k ys, Fr h₀ L h' m → News h₀ L h' ((D, listOf ys k) :: news) → (∀ q ∈ news, q.1 ≠ D) →
      ys.toList = (ps.filter fun q => Txt.lower q.1 == key).map (·.2) → Q (.ref D) { s with heap := h', toks := tk }) :
    wpAny (model prog w) A (eval (.ListComp (.Subscript (.Name (Str.ofString "kv") p8) (.Constant (.int 1) 0 p9) p0) [⟨.Name (Str.ofString "kv") px, iter, [.Compare (.Call (.Attribute (.Subscript (.Name (Str.ofString "kv") p1) (.Constant (.int 0) 0 p2) p3) (Str.ofString "lower") p4) [] [] p5) [.Eq] [.Name (Str.ofString "name") p6] p7], 0⟩] scope pos) env) Q E s := by
  refine wpAny_ListComp_free (isKey s.heap key) (fun v y => ∃ t nm tk, v = .ref t ∧ s.heap.get? t = some (pairObj nm tk y)) hclos hcell hkind hnames hx (hiter _ fun tk => ?_) hs
  refine comp_tail (s := { s with toks := tk }) hh F N hl hsz (fun s₂ ⟨o, e⟩ F₂ N₂ => ?_) (fun D h' tk' ys k F' N' hP hD keep => ?_)
  · refine quiet_get hk hv hn hcl (N _ hcn).1 hoc hcall (P.here (news_mono N hn0)) (fun b o' e' => ?_) (fun t o' e' => Nat.ne_of_lt (Heap.lt_size e'))
    rw [e]
    exact Heap.get?_push_of_some _ e'
  · exact hQ D h' tk' k ys F' N' hD (vals_of P (news_mono N hn0) hP)
theorem add_end {h : Heap} {l t : Addr} {pre : List (Addr × Obj)} {its : Array Value} {n k : Nat} {ps : List (Str × Value)} {nm : Str} {tk : Tok} {v : Value} (N : News h₀ L h ((t, pairObj nm tk v) :: pre)) (hsub : ∀ p ∈ news, p ∈ pre)
    (hl : (l, listOf its n) ∈ news) (P : PairsN news its.toList ps) (hn : nm.length ≤ 1000) :
    PairsN (upd l (listOf (its.push (.ref t)) k) ((t, pairObj nm tk v) :: news)) (its.push (.ref t)).toList (ps ++ [(nm, v)]) := by
  have N₀ : News h₀ L h ((t, pairObj nm tk v) :: news) := news_mono N fun p hp => (List.mem_cons.mp hp).elim (fun e => List.mem_cons.mpr (.inl e)) fun e => List.mem_cons_of_mem _ (hsub p e)
  have P₁ := (P.mono fun p hp => List.mem_cons_of_mem (t, pairObj nm tk v) hp).upd (o' := listOf (its.push (.ref t)) k) N₀ (List.mem_cons_of_mem _ hl) (by show Value.type "list" ≠ Value.type "tuple"; decide)
  rw [Array.toList_push]
  exact P₁.snoc (tk := tk) (mem_upd (List.mem_cons_self) (news_ne N₀ (List.mem_cons_self) (List.mem_cons_of_mem _ hl) (by show Value.type "tuple" ≠ Value.type "list"; decide))) hn
theorem upd_sub {l : Addr} {o : Obj} {a b : List (Addr × Obj)} (h : ∀ p ∈ a, p ∈ b) : ∀ p ∈ upd l o a, p ∈ upd l o b := by
  intro p hp
  unfold upd at *
  rw [List.mem_map] at *
  obtain ⟨q, hq, e⟩ := hp
  exact ⟨q, h q hq, e⟩
end
end Mine
namespace Mine
theorem args_setitem (a b c : Value) : argsOk "list.__setitem__" ⟨[a, b, c], []⟩ := args_list_setitem _ _ _
section
variable {prog : Program} {w : World} {A : Around} {E : Value → Shared → Prop} {s : Shared} {h₀ : Heap} {L l : Addr} {m : Str → Option Value} {news : List (Addr × Obj)}
theorem setItem_all {D sl : Addr} {its ys : Array Value} {n k : Nat} {Q : Unit → Shared → Prop} (hl : s.heap.get? l = some (listOf its n)) (hD : s.heap.get? D = some (listOf ys k)) (hs : s.heap.IsSliceOf sl .none .none .none)
    (hlD : l ≠ D) (hsz : its.size + ys.size ≤ sizeLine) (h : ∀ h' n', Heap.SameBut l s.heap h' → h'.get? l = some (listOf ys n') → Q () { s with heap := h' }) :
    wpAny (model prog w) A (setItem (.ref l) (.ref sl) (.ref D)) Q E s := by
  have hL : s.heap.IsList l its := ⟨_, hl, rfl, n, rfl⟩
  have hLD : s.heap.IsList D ys := ⟨_, hD, rfl, k, rfl⟩
  obtain ⟨os, hos, hcs, hds⟩ := id hs
  have hTs : s.TypeIs (.ref sl) "slice" := ⟨os, hos, hcs⟩
  unfold setItem
  try with_reducible refine wpAny_holding ?_
  first | refine wpAny_bind (wpAny_pure ?_) | skip
  refine wpAny_bind (wpAny_sequenceKey hL.typeIs (by decide) ?_)
  refine wpAny_bind (wpAny_callSpecial?_slot (name := Str.ofString "__setitem__") hL.typeIs slot_list_setitem
    (wpAny_call_entry slot_list_setitem hL.typeIs entry_list_setitem ?_ (args_list_setitem _ _ _)))
  show wpAny _ _ (Builtin.List.listSubscript? (.ref sl) >>= _) _ _ s
  refine wpAny_bind ?_
  unfold Builtin.List.listSubscript?
  refine wpAny_bind (wpAny_specialOf hTs slice_no_index ?_)
  simp only [Option.isNone_none, if_true]
  refine wpAny_pure ?_
  show wpAny _ _ (typeOf (.ref sl) >>= _) _ _ s
  refine wpAny_bind (wpAny_typeOf hTs ?_)
  rw [if_neg (by decide)]
  rw [listSliceParts_eq]
  refine wpAny_bind (wpAny_bind (wpAny_field hos hds (x := .none) rfl (wpAny_bind (wpAny_listPart .none ?_))))
  rw [if_neg (by decide)]
  refine wpAny_bind (wpAny_field hos hds (x := .none) rfl (wpAny_bind (wpAny_listPart .none ?_)))
  refine wpAny_bind (wpAny_field hos hds (x := .none) rfl (wpAny_bind (wpAny_listPart .none (wpAny_pure ?_))))
  have hne : Builtin.List.listSameRef (.ref l) (.ref D) = false := by
    show (l == D) = false
    exact beq_eq_false_iff_ne.mpr hlD
  dsimp only
  rw [hne, if_neg Bool.false_ne_true]
  refine wpAny_bind ?_
  unfold Builtin.List.listAllItems
  refine wpAny_bind (wpAny_typeOf hLD.typeIs ?_)
  rw [if_pos (by decide)]
  unfold Builtin.List.listItems
  refine wpAny_bind (wpAny_seqItems hD rfl (wpAny_pure ?_))
  refine wpAny_bind ?_
  refine wpAny_bind (wpAny_seqItems hl rfl (wpAny_pure ?_))
  refine wpAny_bind (wpAny_of_eq (sliceIndices_raw none none none its.size (by simp)) ?_)
  have hb : sliceBounds none none none its.size = (0, (its.size : Int), 1) := rfl
  rw [hb]
  dsimp only
  rw [if_pos (by decide)]
  refine wpAny_bind (wpAny_rule ?_)
  rw [if_neg (by simp [Builtin.List.listTooLong]; omega)]
  have e1 : (max (0 : Int) (its.size : Int)).toNat = its.size := by
    rw [Int.max_eq_right (by omega)]; rfl
  have ef : (its.extract 0 (0 : Int).toNat ++ ys ++ its.extract (max (0 : Int) (its.size : Int)).toNat its.size) = ys := by
    rw [e1]; simp
  refine wpAny_bind ?_
  show wpAny _ _ (updateSeq l _) _ _ _
  refine wpAny_updateSeq hl rfl ?_ (by omega) (by rw [ef]; omega)
  have hm : Obj.mapSeq (fun xs => xs.extract 0 (0 : Int).toNat ++ ys ++ xs.extract (max (0 : Int) (its.size : Int)).toNat xs.size) (listOf its n) = listOf ys (if ys.size == its.size then n else n + 1) := by
    unfold Obj.mapSeq
    dsimp only
    rw [ef]
  have hg : (s.heap.update l (Obj.mapSeq fun xs => xs.extract 0 (0 : Int).toNat ++ ys ++ xs.extract (max (0 : Int) (its.size : Int)).toNat xs.size)).get? l = some (listOf ys (if ys.size == its.size then n else n + 1)) := by
    rw [Heap.get?_update_self _ hl (by rw [hm]; rfl), hm]
  refine wpAny_bind (wpAny_letGo (wpAny_pure ⟨.none, rfl, wpAny_pure ?_⟩))
  exact h _ _ (Heap.SameBut.update ..) hg
/-- the whole list laid anew, by the ledger -/
theorem setAll_L {D sl : Addr} {its ys : Array Value} {n k : Nat} {Q : Unit → Shared → Prop} (F : Fr h₀ L s.heap m) (N : News h₀ L s.heap news) (hl : (l, listOf its n) ∈ news) (hD : (D, listOf ys k) ∈ news) (hs : s.heap.IsSliceOf sl .none .none .none)
    (hlD : l ≠ D) (hsz : its.size + ys.size ≤ sizeLine) (h : ∀ h' n', Fr h₀ L h' m → News h₀ L h' (upd l (listOf ys n') news) → Q () { s with heap := h' }) :
    wpAny (model prog w) A (setItem (.ref l) (.ref sl) (.ref D)) Q E s :=
  setItem_all (N _ hl).1 (N _ hD).1 hs hlD hsz fun h' n' hs' ho' => h h' n' (F.change hs' (N _ hl).2.1 (N _ hl).2.2) (news_upd N hl hs' ho')
abbrev sliceAll : Obj := { cls := .type "slice", data := .fields #[.none, .none, .none] }
theorem slice_K {env : Env} {p : Pos} {Q : Value → Shared → Prop} (F : Fr h₀ L s.heap m) (N : News h₀ L s.heap news)
    (h : ∀ sl h', Fr h₀ L h' m → News h₀ L h' ((sl, sliceAll) :: news) → Q (.ref sl) { s with heap := h' }) : wpAny (model prog w) A (eval (.Slice none none none p) env) Q E s := by
  refine wpAny_Slice ?_
  rw [evalPart_none]
  refine wpAny_pure (wpAny_pure (wpAny_pure ?_))
  exact h _ _ (F.push _) (N.push F _)
theorem upd_cons {a : Addr × Obj} {o : Obj} {p : Addr × Obj} (h : p ∈ upd l o news) : p ∈ upd l o (a :: news) := by
  unfold upd at *
  rw [List.map_cons]
  exact List.mem_cons_of_mem _ h
end
end Mine
namespace Mine
theorem slicePick_all (its : Array Value) : slicePick its none none none = its := by
  have h := slicePick_run its 0 its.size (Nat.le_refl _) (Nat.zero_le _)
  have e : slicePick its none none none = slicePick its (some ((0 : Nat) : Int)) (some (its.size : Int)) none := by
    unfold slicePick
    have e1 : sliceBounds none none none its.size = (0, (its.size : Int), 1) := rfl
    have e2 : sliceBounds (some ((0 : Nat) : Int)) (some (its.size : Int)) none its.size = (0, (its.size : Int), 1) := by
      unfold sliceBounds
      simp
      omega
    rw [e1, e2]
  rw [e, h, List.drop_zero, Nat.sub_zero, List.take_of_length_le (by simp)]
section
variable {prog : Program} {w : World} {A : Around} {E : Value → Shared → Prop} {s : Shared} {h₀ : Heap} {L l : Addr} {m : Str → Option Value} {news : List (Addr × Obj)}
theorem copy_L {value slice : Expr} {sl : Addr} {its : Array Value} {n : Nat} {Q : Value → Shared → Prop} (F : Fr h₀ L s.heap m) (N : News h₀ L s.heap news) (hl : (l, listOf its n) ∈ news) (hs : (sl, sliceAll) ∈ news) (hsz : its.size ≤ sizeLine)
    (h : ∀ D h', Fr h₀ L h' m → News h₀ L h' ((D, listOf its 0) :: news) → (∀ p ∈ news, p.1 < D) → Q (.ref D) { s with heap := h' })
    (he : subscripted slice false (.ref l) (.ref sl) = operate [.ref sl, .ref l] (getItem (.ref l) (.ref sl)) := by with_unfolding_all rfl) :
    wpAny (model prog w) A (subscriptTail value slice (.ref l) (.ref sl)) Q E s := by
  have z := N _ hl
  have hL : s.heap.IsList l its := ⟨_, z.1, rfl, n, rfl⟩
  refine tail_any hL.typeIs slot_list_getitem.lookup ?_ he
  refine wpAny_getItem_list_slice hL ⟨_, (N _ hs).1, rfl, rfl⟩ .none .none .none (by simp) ?_ hsz
  rw [slicePick_all]
  exact h _ _ (F.push _) (N.push F _) fun p hp => Heap.lt_size (N p hp).1
theorem len_L {its : Array Value} {n : Nat} {Q : Value → Shared → Prop} (N : News h₀ L s.heap news) (hl : (l, listOf its n) ∈ news) (hsz : its.size ≤ 1000000)
    (h : ∀ t t', Q (.int its.size t) { s with toks := t' }) : wpAny (model prog w) A (call (.builtin "len") [.ref l]) Q E s :=
  Calls.call_len_list ⟨_, (N _ hl).1, rfl, n, rfl⟩ (by omega) (h _ _)
end
end Mine
namespace Mine
section
variable {prog : Program} {w : World} {A : Around} {E : Value → Shared → Prop} {s : Shared} {h₀ : Heap} {l : Addr} {m : Str → Option Value} {news : List (Addr × Obj)} {env : Env}

/-- what a turn of a loop leaves: the state, the frame, the ledger, the iterator's entry, the word -/
def TurnEnd (h₀ : Heap) (L : Addr) (s : Shared) (it : Addr × Obj) (J : (Str → Option Value) → List (Addr × Obj) → Prop) (Q : Flow → Shared → Prop) (f : Flow) (s₃ : Shared) : Prop :=
  match f with
  | .ret v => Q (.ret v) s₃
  | .brk => Q .next s₃
  | _ => ∃ h' t' m₂ n₂, s₃ = { s with heap := h', toks := t' } ∧ Fr h₀ L h' m₂ ∧ News h₀ L h' n₂ ∧ it ∈ n₂ ∧ J m₂ n₂
def iterNames : List String := ["list_iterator", "range_iterator", "str_ascii_iterator", "dict_itemiterator", "tuple_iterator", "slice"]
def isIter (o : Obj) : Bool := match o.cls with | .type t => iterNames.contains t | _ => false
theorem isIter_of {o : Obj} {t : String} (h : o.cls = .type t) (ht : iterNames.contains t = true) : isIter o = true := by unfold isIter; rw [h]; exact ht
theorem isIter_absurd {o : Obj} {t : String} (h : o.cls = .type t) (ht : iterNames.contains t = true) (hn : isIter o = false) : False := by rw [isIter_of h ht] at hn; cases hn

theorem letOwned_list {target : Expr} {I l : Addr} {i : Nat} {v : Value} {Q : Unit → Shared → Prop} (hit : s.heap.IsListIter I l i) (hQ : Q () s) :
    wpAny (model prog w) A (letOwnedTupleGo target (.ref I) v) Q E s := by
  obtain ⟨o, ho, hc, hd⟩ := hit
  have fin : wpAny (model prog w) A (do
      let o ← load I
      match o.cls, o.data with
      | .type n, .fields vs =>
        if ["enumerate", "zip", "dict_itemiterator", "dict_reverseitemiterator", "odict_iterator", "itertools.zip_longest", "itertools.pairwise"].contains n && vs[0]? == some (rawInt (match v with | .ref a => a | _ => 0)) then
          rule "for.unpacks-the-owned-tuple"
          updateField I 0 .none
      | _, _ => pure ()) Q E s := by
    refine wpAny_bind (wpAny_load ho ?_)
    rw [hc, hd]
    dsimp only
    rw [if_neg (by
      intro h
      rw [show (["enumerate", "zip", "dict_itemiterator", "dict_reverseitemiterator", "odict_iterator", "itertools.zip_longest", "itertools.pairwise"].contains "list_iterator") = false from by decide, Bool.false_and] at h
      cases h)]
    exact wpAny_pure hQ
  unfold letOwnedTupleGo
  split
  · cases v <;> first | exact fin | exact wpAny_pure hQ
  · cases v <;> first | exact fin | exact wpAny_pure hQ
  · exact wpAny_pure hQ

theorem fr_but' {L I : Addr} {h h' : Heap} (F : Fr h₀ L h m) (k : ∀ b o, b ≠ I → h.get? b = some o → h'.get? b = some o) (hL : L ≠ I) (h0 : h₀.get? I = none) : Fr h₀ L h' m := by
  obtain ⟨oL, es, ep, a, r⟩ := F.ns
  exact ⟨⟨oL, es, ep, k _ _ hL a, r⟩, fun b o e => k b o (fun q => by rw [q, h0] at e; cases e) (F.keep b o e), F.above⟩

theorem for_list {target : Expr} {body : List Stmt} {its : Array Value} {n : Nat} {Q : Flow → Shared → Prop} (J : Nat → (Str → Option Value) → List (Addr × Obj) → Prop)
    (hh : A.handled = none) (F : Fr h₀ env.locals s.heap m) (N : News h₀ env.locals s.heap news)
    (hJ : ∀ i m n n' I, (∀ p ∈ news, p.1 ≠ I) → (∀ p ∈ n, isIter p.2 = false → p.1 ≠ I) → J i m n → (∀ p ∈ n, p.1 ≠ I → p ∈ n') → J i m n') (hl : ∀ i m n', J i m n' → (l, listOf its n) ∈ n') (j0 : J 0 m news)
    (turn : ∀ i v m₁ n₁ h tk it, its[i]? = some v → J i m₁ n₁ → isIter it.2 = true → it ∈ n₁ → Fr h₀ env.locals h m₁ → News h₀ env.locals h n₁ →
      wpAny (model prog w) A (assign target env v) (fun _ s₂ => wpAny (model prog w) A (execs body env) (TurnEnd h₀ env.locals s it (J (i + 1)) Q) (notedBy (model prog w) A env fun e s' => cameBackBy (model prog w) A env E e s') s₂)
        (notedBy (model prog w) A env fun e s' => cameBackBy (model prog w) A env E e s') { s with heap := h, toks := tk })
    (done : ∀ m₁ n₁ h tk, J its.size m₁ n₁ → Fr h₀ env.locals h m₁ → News h₀ env.locals h n₁ → Q .next { s with heap := h, toks := tk }) :
    wpAny (model prog w) A (pyIter (.ref l)) (fun it s₂ => codeAny (model prog w) A (.forLoop target it body [] env) (fun r s' => match r with | .ok f => Q f s' | .error e => cameBackBy (model prog w) A env E e s') s₂) E s := by
  have z := N _ (hl _ _ _ j0)
  have hL : s.heap.IsList l its := ⟨_, z.1, rfl, n, rfl⟩
  have hlt := Heap.lt_size z.1
  refine wpAny_pyIter_list hL ?_
  have up : ∀ b o, s.heap.get? b = some o → (s.heap.push { cls := .type "list_iterator", data := .fields #[.ref l, .int 0 0] }).get? b = some o := fun b o e => Heap.get?_push_of_some _ e
  have hLI : env.locals ≠ s.heap.objs.size := Nat.ne_of_lt F.ns.lt
  have hI0 : h₀.get? s.heap.objs.size = none := next_is_new F
  have nI : ∀ p ∈ news, p.1 ≠ s.heap.objs.size := fun p hp => Nat.ne_of_lt (Heap.lt_size (N p hp).1)
  generalize hI : s.heap.objs.size = I at *
  refine codeAny_forLoop_any
    (fun k s' => ∃ h' tk m' n' i oI, s' = { s with heap := h', toks := tk } ∧ oI.cls = .type "list_iterator" ∧ oI.data = .fields #[.ref l, .int ((i : Nat) : Int) 0] ∧ Fr h₀ env.locals h' m' ∧ News h₀ env.locals h' n' ∧ (I, oI) ∈ n' ∧ J i m' n' ∧ i ≤ its.size ∧
      k = its.size + 1 - i) ?_ (its.size + 1) ⟨_, s.toks, m, (I, { cls := .type "list_iterator", data := .fields #[.ref l, .int 0 0] }) :: news, 0, _, rfl, rfl, rfl, F.push _, ?_, .head _, hJ _ _ _ _ I nI (fun p hp _ => nI p hp) j0 (fun p hp _ => .tail _ hp), Nat.zero_le _, rfl⟩
  · rintro k s' ⟨h, tk, m', n', i, oI, rfl, hc, hd, F', N', hm, hJ', hi, rfl⟩
    have eI := (N' _ hm).1
    have hit : h.IsListIter I l i := ⟨oI, eI, hc, hd⟩
    have hlm := hl _ _ _ hJ'
    have hls : h.IsList l its := ⟨_, (N' _ hlm).1, rfl, n, rfl⟩
    have keepJ : ∀ (p : Addr × Obj), p ∈ n' → isIter p.2 = false → p.1 ≠ I := fun p hp hni e => by
      have e1 := (N' _ hp).1
      rw [e, eI] at e1
      exact isIter_absurd (by rw [← Option.some.inj e1]; exact hc) (by decide) hni
    cases hv : its[i]? with
    | none =>
      have hsz : i = its.size := Nat.le_antisymm hi (by simpa using hv)
      refine wpAny_pyNext_list_end hh hit hls hv fun h₁ he₁ => wpAny_execs_nil ?_
      have k₁ : ∀ b o, b ≠ I → h.get? b = some o → h₁.get? b = some o := fun b o hb e => he₁ b o hb e
      refine done m' (n'.filter fun p => decide (p.1 ≠ I)) h₁ tk (hsz ▸ hJ _ _ _ _ I nI keepJ hJ' fun p hp hni => ?_) (fr_but' F' k₁ hLI hI0) fun p hp => ?_
      · rw [List.mem_filter, decide_eq_true_eq]
        exact ⟨hp, hni⟩
      · rw [List.mem_filter, decide_eq_true_eq] at hp
        exact ⟨k₁ _ _ hp.2 (N' _ hp.1).1, (N' _ hp.1).2⟩
    | some v =>
      have hlt : i < its.size := (Array.getElem?_eq_some_iff.mp hv).1
      refine wpAny_pyNext_list_item hit hls hv fun h₁ hit₁ hs₁ => ?_
      have k₁ : ∀ b o, b ≠ I → h.get? b = some o → h₁.get? b = some o := fun b o hb e => hs₁.extBut b o hb e
      dsimp only
      refine letOwned_list hit₁ ?_
      obtain ⟨o₁, e₁, c₁, d₁⟩ := id hit₁
      have ii : isIter o₁ = true := isIter_of c₁ (by decide)
      refine wpAny_mono (turn i v m' ((I, o₁) :: n'.filter fun p => decide (p.1 ≠ I)) h₁ tk (I, o₁) hv (hJ _ _ _ _ I nI keepJ hJ' fun p hp hni => ?_) ii (.head _) (fr_but' F' k₁ hLI hI0) fun p hp => ?_) (fun _ s₂ h₂ => wpAny_mono h₂ (fun f s₃ h₃ => ?_) fun _ _ x => x) fun _ _ x => x
      · refine List.mem_cons_of_mem _ ?_
        rw [List.mem_filter, decide_eq_true_eq]
        exact ⟨hp, hni⟩
      · rcases List.mem_cons.mp hp with rfl | hp
        · exact ⟨e₁, Ne.symm hLI, hI0⟩
        · rw [List.mem_filter, decide_eq_true_eq] at hp
          exact ⟨k₁ _ _ hp.2 (N' _ hp.1).1, (N' _ hp.1).2⟩
      · have go : (∃ h' t' m₂ n₂, s₃ = { s with heap := h', toks := t' } ∧ Fr h₀ env.locals h' m₂ ∧ News h₀ env.locals h' n₂ ∧ (I, o₁) ∈ n₂ ∧ J (i + 1) m₂ n₂) → ∃ m_1, m_1 < its.size + 1 - i ∧ ∃ h' tk m' n' i oI, s₃ = { s with heap := h', toks := tk } ∧ oI.cls = .type "list_iterator" ∧ oI.data = .fields #[.ref l, .int ((i : Nat) : Int) 0] ∧ Fr h₀ env.locals h' m' ∧ News h₀ env.locals h' n' ∧ (I, oI) ∈ n' ∧ J i m' n' ∧ i ≤ its.size ∧
            m_1 = its.size + 1 - i := by
          rintro ⟨h', t', m₂, n₂, rfl, F₂, N₂, hm₂, hJ₂⟩
          exact ⟨its.size + 1 - (i + 1), by omega, h', t', m₂, n₂, i + 1, o₁, rfl, c₁, by rw [d₁], F₂, N₂, hm₂, hJ₂, hlt, rfl⟩
        cases f with
        | ret v => exact h₃
        | brk => exact h₃
        | next => exact go h₃
        | cont => exact go h₃
  · intro p hp
    rcases List.mem_cons.mp hp with rfl | hp
    · exact ⟨hI ▸ Heap.get?_push_size _ rfl, Ne.symm hLI, hI0⟩
    · exact ⟨up _ _ (N _ hp).1, (N _ hp).2⟩
theorem for_items {v d : Addr} {od : Obj} {K : Type} [DecidableEq K] {knd : KeyKind prog w K} {elts : List Expr} {x1 : Nat} {pt : Pos} {body : List Stmt} {kvs : List (K × Value)} {Q : Flow → Shared → Prop} (J : Nat → (Str → Option Value) → List (Addr × Obj) → Prop)
    (hh : A.handled = none) (F : Fr h₀ env.locals s.heap m) (N : News h₀ env.locals s.heap news)
    (hJ : ∀ i m n n' I, (∀ p ∈ news, p.1 ≠ I) → (∀ p ∈ n, isIter p.2 = false → p.1 ≠ I) → J i m n → (∀ p ∈ n, p.1 ≠ I → p ∈ n') → J i m n') (hv : (v, ({ cls := .type "dict_items", data := .fields #[.ref d] } : Obj)) ∈ news) (hl : ∀ i m n', J i m n' → (d, od) ∈ n') (hd : od.IsDictOf knd kvs) (j0 : J 0 m news)
    (turn : ∀ i k v key t m₁ n₁ h tk it, kvs[i]? = some (k, v) → knd.is k key = true → (t, ({ cls := .type "tuple", data := .seq #[key, v] } : Obj)) ∈ n₁ → J i m₁ n₁ → isIter it.2 = true → it ∈ n₁ → Fr h₀ env.locals h m₁ → News h₀ env.locals h n₁ →
      wpAny (model prog w) A (assign (.Tuple elts x1 pt) env (.ref t)) (fun _ s₂ => wpAny (model prog w) A (execs body env) (TurnEnd h₀ env.locals s it (J (i + 1)) Q) (notedBy (model prog w) A env fun e s' => cameBackBy (model prog w) A env E e s') s₂)
        (notedBy (model prog w) A env fun e s' => cameBackBy (model prog w) A env E e s') { s with heap := h, toks := tk })
    (done : ∀ m₁ n₁ h tk, J kvs.length m₁ n₁ → Fr h₀ env.locals h m₁ → News h₀ env.locals h n₁ → Q .next { s with heap := h, toks := tk }) :
    wpAny (model prog w) A (pyIter (.ref v)) (fun it s₂ => codeAny (model prog w) A (.forLoop (.Tuple elts x1 pt) it body [] env) (fun r s' => match r with | .ok f => Q f s' | .error e => cameBackBy (model prog w) A env E e s') s₂) E s := by
  have z := N _ (hl _ _ _ j0)
  obtain ⟨es, ep, q1, q2, q3, q4, q5⟩ := hd
  have hD : ∀ h : Heap, h.get? d = some od → h.DictAt knd d kvs ep := fun h e => ⟨od, es, e, q1, q2, q3, q4, q5⟩
  have hV : s.heap.IsItemsView v d := ⟨_, (N _ hv).1, rfl, rfl⟩
  refine wpAny_pyIter_items hV (hD _ z.1) ?_
  have up : ∀ b o, s.heap.get? b = some o → (s.heap.push { cls := .type "dict_itemiterator", data := .fields #[.none, .bool false, .ref d, .int 0 0, .int kvs.length 0, .int ep 0, .none, .none] }).get? b = some o := fun b o e => Heap.get?_push_of_some _ e
  have hLI : env.locals ≠ s.heap.objs.size := Nat.ne_of_lt F.ns.lt
  have hI0 : h₀.get? s.heap.objs.size = none := next_is_new F
  have nI : ∀ p ∈ news, p.1 ≠ s.heap.objs.size := fun p hp => Nat.ne_of_lt (Heap.lt_size (N p hp).1)
  generalize hI : s.heap.objs.size = I at *
  refine codeAny_forLoop_any
    (fun k s' => ∃ h' tk m' n' i ok ov, s' = { s with heap := h', toks := tk } ∧ Fr h₀ env.locals h' m' ∧ News h₀ env.locals h' n' ∧ (I, ({ cls := .type "dict_itemiterator", dict := none, data := .fields #[.none, .bool false, .ref d, .int ((i : Nat) : Int) 0, .int kvs.length 0, .int ep 0, ok, ov], slots := #[] } : Obj)) ∈ n' ∧ J i m' n' ∧ i ≤ kvs.length ∧
      k = kvs.length + 1 - i) ?_ (kvs.length + 1) ⟨_, s.toks, m, (I, { cls := .type "dict_itemiterator", data := .fields #[.none, .bool false, .ref d, .int 0 0, .int kvs.length 0, .int ep 0, .none, .none] }) :: news, 0, .none, .none, rfl, F.push _, ?_, .head _, hJ _ _ _ _ I nI (fun p hp _ => nI p hp) j0 (fun p hp _ => .tail _ hp), Nat.zero_le _, rfl⟩
  · rintro k s' ⟨h, tk, m', n', i, ok, ov, rfl, F', N', hm, hJ', hi, rfl⟩
    have eI := (N' _ hm).1
    have hlm := hl _ _ _ hJ'
    have hds := hD h (N' _ hlm).1
    have keepJ : ∀ (p : Addr × Obj), p ∈ n' → isIter p.2 = false → p.1 ≠ I := fun p hp hni e => by
      have e1 := (N' _ hp).1
      rw [e, eI] at e1
      exact isIter_absurd (t := "dict_itemiterator") (by rw [← Option.some.inj e1]) (by decide) hni
    cases hx : kvs[i]? with
    | none =>
      have hsz : i = kvs.length := Nat.le_antisymm hi (by simpa using hx)
      refine wpAny_pyNext_items_end hh eI hds hx fun h₁ he₁ => wpAny_execs_nil ?_
      have k₁ : ∀ b o, b ≠ I → h.get? b = some o → h₁.get? b = some o := fun b o hb e => he₁ b o hb e
      refine done m' (n'.filter fun p => decide (p.1 ≠ I)) h₁ tk (hsz ▸ hJ _ _ _ _ I nI keepJ hJ' fun p hp hni => ?_) (fr_but' F' k₁ hLI hI0) fun p hp => ?_
      · rw [List.mem_filter, decide_eq_true_eq]
        exact ⟨hp, hni⟩
      · rw [List.mem_filter, decide_eq_true_eq] at hp
        exact ⟨k₁ _ _ hp.2 (N' _ hp.1).1, (N' _ hp.1).2⟩
    | some kv =>
      obtain ⟨key₀, val⟩ := kv
      have hlt : i < kvs.length := (List.getElem?_eq_some_iff.mp hx).1
      refine wpAny_pyNext_items_item eI hds hx fun key h₁ hkey hout ht hsz hk₁ => ?_
      dsimp only
      refine wpAny_letOwnedTupleGo_items hout fun h₂ hit₂ hs₂ => ?_
      have hTI : h.objs.size ≠ I := fun e => by
        have := Heap.lt_size eI
        rw [← e] at this
        exact Nat.lt_irrefl _ this
      have k₂ : ∀ b o, b ≠ I → h.get? b = some o → h₂.get? b = some o := fun b o hb e => hs₂.extBut b o hb (hk₁ b o hb e)
      have ht₂ : h₂.get? h.objs.size = some { cls := .type "tuple", data := .seq #[key, val] } := hs₂.extBut _ _ hTI ht
      have hTL : h.objs.size ≠ env.locals := Ne.symm (Nat.ne_of_lt F'.ns.lt)
      have hT0 : h₀.get? h.objs.size = none := next_is_new F'
      have ii : isIter ({ cls := .type "dict_itemiterator", dict := none, data := .fields #[.none, .bool false, .ref d, .int ((i + 1 : Nat) : Int) 0, .int kvs.length 0, .int ep 0, key, val], slots := #[] } : Obj) = true := isIter_of (t := "dict_itemiterator") rfl (by decide)
      refine wpAny_mono (turn i key₀ val key h.objs.size m' ((I, ({ cls := .type "dict_itemiterator", dict := none, data := .fields #[.none, .bool false, .ref d, .int ((i + 1 : Nat) : Int) 0, .int kvs.length 0, .int ep 0, key, val], slots := #[] } : Obj)) :: (h.objs.size, { cls := .type "tuple", data := .seq #[key, val] }) :: n'.filter fun p => decide (p.1 ≠ I)) h₂ tk (I, _) hx hkey (.tail _ (.head _)) (hJ _ _ _ _ I nI keepJ hJ' fun p hp hni => ?_) ii (.head _) (fr_but' F' k₂ hLI hI0) fun p hp => ?_) (fun _ s₂ h₂ => wpAny_mono h₂ (fun f s₃ h₃ => ?_) fun _ _ x => x) fun _ _ x => x
      · refine List.mem_cons_of_mem _ (List.mem_cons_of_mem _ ?_)
        rw [List.mem_filter, decide_eq_true_eq]
        exact ⟨hp, hni⟩
      · rcases List.mem_cons.mp hp with rfl | hp
        · exact ⟨hit₂, Ne.symm hLI, hI0⟩
        · rcases List.mem_cons.mp hp with rfl | hp
          · exact ⟨ht₂, hTL, hT0⟩
          · rw [List.mem_filter, decide_eq_true_eq] at hp
            exact ⟨k₂ _ _ hp.2 (N' _ hp.1).1, (N' _ hp.1).2⟩
      · have go : (∃ h' t' m₂ n₂, s₃ = { s with heap := h', toks := t' } ∧ Fr h₀ env.locals h' m₂ ∧ News h₀ env.locals h' n₂ ∧ (I, ({ cls := .type "dict_itemiterator", dict := none, data := .fields #[.none, .bool false, .ref d, .int ((i + 1 : Nat) : Int) 0, .int kvs.length 0, .int ep 0, key, val], slots := #[] } : Obj)) ∈ n₂ ∧ J (i + 1) m₂ n₂) → ∃ m_1, m_1 < kvs.length + 1 - i ∧ ∃ h' tk m' n' i ok ov, s₃ = { s with heap := h', toks := tk } ∧ Fr h₀ env.locals h' m' ∧ News h₀ env.locals h' n' ∧ (I, ({ cls := .type "dict_itemiterator", dict := none, data := .fields #[.none, .bool false, .ref d, .int ((i : Nat) : Int) 0, .int kvs.length 0, .int ep 0, ok, ov], slots := #[] } : Obj)) ∈ n' ∧ J i m' n' ∧ i ≤ kvs.length ∧
            m_1 = kvs.length + 1 - i := by
          rintro ⟨h', t', m₂, n₂, rfl, F₂, N₂, hm₂, hJ₂⟩
          exact ⟨kvs.length + 1 - (i + 1), by omega, h', t', m₂, n₂, i + 1, key, val, rfl, F₂, N₂, hm₂, hJ₂, hlt, rfl⟩
        cases f with
        | ret v => exact h₃
        | brk => exact h₃
        | next => exact go h₃
        | cont => exact go h₃
  · intro p hp
    rcases List.mem_cons.mp hp with rfl | hp
    · exact ⟨hI ▸ Heap.get?_push_size _ rfl, Ne.symm hLI, hI0⟩
    · exact ⟨up _ _ (N _ hp).1, (N _ hp).2⟩

theorem for_range {r : Addr} {a b : Int} {tu tv tw : Tok} {target : Expr} {body : List Stmt} {n : Nat} {Q : Flow → Shared → Prop} (J : Nat → (Str → Option Value) → List (Addr × Obj) → Prop)
    (hh : A.handled = none) (F : Fr h₀ env.locals s.heap m) (N : News h₀ env.locals s.heap news)
    (hr : IsRange s.heap r a b 1 tu tv tw) (hsm : Builtin.Range.small a b 1 = true) (hn : Builtin.Range.rangeSize a b 1 = ((n : Nat) : Int)) (ht : ∀ it v, letOwnedTupleGo target it v = pure ())
    (hJ : ∀ i m n n' I, (∀ p ∈ news, p.1 ≠ I) → (∀ p ∈ n, isIter p.2 = false → p.1 ≠ I) → J i m n → (∀ p ∈ n, p.1 ≠ I → p ∈ n') → J i m n') (j0 : J 0 m news)
    (turn : ∀ i tv m₁ n₁ h tk it, i < n → J i m₁ n₁ → isIter it.2 = true → it ∈ n₁ → Fr h₀ env.locals h m₁ → News h₀ env.locals h n₁ →
      wpAny (model prog w) A (assign target env (.int (a + (i : Nat)) tv)) (fun _ s₂ => wpAny (model prog w) A (execs body env) (TurnEnd h₀ env.locals s it (J (i + 1)) Q) (notedBy (model prog w) A env fun e s' => cameBackBy (model prog w) A env E e s') s₂)
        (notedBy (model prog w) A env fun e s' => cameBackBy (model prog w) A env E e s') { s with heap := h, toks := tk })
    (done : ∀ m₁ n₁ h tk, J n m₁ n₁ → Fr h₀ env.locals h m₁ → News h₀ env.locals h n₁ → Q .next { s with heap := h, toks := tk }) :
    wpAny (model prog w) A (pyIter (.ref r)) (fun it s₂ => codeAny (model prog w) A (.forLoop target it body [] env) (fun r s' => match r with | .ok f => Q f s' | .error e => cameBackBy (model prog w) A env E e s') s₂) E s := by
  refine wpAny_pyIter_range hr hsm ?_
  rw [hn]
  have up : ∀ b' o, s.heap.get? b' = some o → (s.heap.push { cls := .type "range_iterator", data := .fields #[rawInt a, rawInt ((n : Nat) : Int), rawInt 1] }).get? b' = some o := fun b o e => Heap.get?_push_of_some _ e
  have hLI : env.locals ≠ s.heap.objs.size := Nat.ne_of_lt F.ns.lt
  have hI0 : h₀.get? s.heap.objs.size = none := next_is_new F
  have nI : ∀ p ∈ news, p.1 ≠ s.heap.objs.size := fun p hp => Nat.ne_of_lt (Heap.lt_size (N p hp).1)
  generalize hI : s.heap.objs.size = I at *
  refine codeAny_forLoop
    (fun k s' => ∃ h' tk m' n' i, s' = { s with heap := h', toks := tk } ∧ Fr h₀ env.locals h' m' ∧ News h₀ env.locals h' n' ∧ (I, { cls := .type "range_iterator", data := .fields #[rawInt (a + (i : Nat)), rawInt ((n : Int) - (i : Nat)), rawInt 1] }) ∈ n' ∧ J i m' n' ∧ i ≤ n ∧
      k = n + 1 - i) ?_ (n + 1) ⟨_, s.toks, m, (I, { cls := .type "range_iterator", data := .fields #[rawInt a, rawInt ((n : Nat) : Int), rawInt 1] }) :: news, 0, rfl, F.push _, ?_, by simp, hJ _ _ _ _ I nI (fun p hp _ => nI p hp) j0 (fun p hp _ => .tail _ hp), Nat.zero_le _, rfl⟩ (fun v => ht _ v)
  · rintro k s' ⟨h, tk, m', n', i, rfl, F', N', hm, hJ', hi, rfl⟩
    have eI := (N' _ hm).1
    have keepJ : ∀ (p : Addr × Obj), p ∈ n' → isIter p.2 = false → p.1 ≠ I := fun p hp hni e => by
      have e1 := (N' _ hp).1
      rw [e, eI] at e1
      exact isIter_absurd (t := "range_iterator") (by rw [← Option.some.inj e1]) (by decide) hni
    by_cases hlt : i < n
    · refine wpAny_pyNext_range_item eI (by omega) fun h₁ hit₁ hs₁ => ?_
      have k₁ : ∀ b o, b ≠ I → h.get? b = some o → h₁.get? b = some o := fun b o hb e => hs₁.extBut b o hb e
      dsimp only
      have e₁ : h₁.get? I = some { cls := .type "range_iterator", data := .fields #[rawInt (a + ((i + 1 : Nat) : Int)), rawInt ((n : Int) - ((i + 1 : Nat) : Int)), rawInt 1] } := by
        have q1 : a + ((i + 1 : Nat) : Int) = a + (i : Nat) + 1 := by omega
        have q2 : (n : Int) - ((i + 1 : Nat) : Int) = (n : Int) - (i : Nat) - 1 := by omega
        rw [q1, q2]; exact hit₁
      have ii : isIter ({ cls := .type "range_iterator", data := .fields #[rawInt (a + ((i + 1 : Nat) : Int)), rawInt ((n : Int) - ((i + 1 : Nat) : Int)), rawInt 1] } : Obj) = true := isIter_of (t := "range_iterator") rfl (by decide)
      refine wpAny_mono (turn i tk m' ((I, { cls := .type "range_iterator", data := .fields #[rawInt (a + ((i + 1 : Nat) : Int)), rawInt ((n : Int) - ((i + 1 : Nat) : Int)), rawInt 1] }) :: n'.filter fun p => decide (p.1 ≠ I)) h₁ (tk + 1) (I, _) hlt (hJ _ _ _ _ I nI keepJ hJ' fun p hp hni => ?_) ii (.head _) (fr_but' F' k₁ hLI hI0) fun p hp => ?_) (fun _ s₂ h₂ => wpAny_mono h₂ (fun f s₃ h₃ => ?_) fun _ _ x => x) fun _ _ x => x
      · refine List.mem_cons_of_mem _ ?_
        rw [List.mem_filter, decide_eq_true_eq]
        exact ⟨hp, hni⟩
      · rcases List.mem_cons.mp hp with rfl | hp
        · exact ⟨e₁, Ne.symm hLI, hI0⟩
        · rw [List.mem_filter, decide_eq_true_eq] at hp
          exact ⟨k₁ _ _ hp.2 (N' _ hp.1).1, (N' _ hp.1).2⟩
      · have go : (∃ h' t' m₂ n₂, s₃ = { s with heap := h', toks := t' } ∧ Fr h₀ env.locals h' m₂ ∧ News h₀ env.locals h' n₂ ∧ (I, ({ cls := .type "range_iterator", data := .fields #[rawInt (a + ((i + 1 : Nat) : Int)), rawInt ((n : Int) - ((i + 1 : Nat) : Int)), rawInt 1] } : Obj)) ∈ n₂ ∧ J (i + 1) m₂ n₂) → ∃ m_1, m_1 < n + 1 - i ∧ ∃ h' tk m' n' i, s₃ = { s with heap := h', toks := tk } ∧ Fr h₀ env.locals h' m' ∧ News h₀ env.locals h' n' ∧ (I, ({ cls := .type "range_iterator", data := .fields #[rawInt (a + (i : Nat)), rawInt ((n : Int) - (i : Nat)), rawInt 1] } : Obj)) ∈ n' ∧ J i m' n' ∧ i ≤ n ∧
            m_1 = n + 1 - i := by
          rintro ⟨h', t', m₂, n₂, rfl, F₂, N₂, hm₂, hJ₂⟩
          exact ⟨n + 1 - (i + 1), by omega, h', t', m₂, n₂, i + 1, rfl, F₂, N₂, hm₂, hJ₂, hlt, rfl⟩
        cases f with
        | ret v => exact h₃
        | brk => exact h₃
        | next => exact go h₃
        | cont => exact go h₃
    · have hsz : i = n := by omega
      refine wpAny_pyNext_range_end hh eI (by omega) fun h₁ he₁ => wpAny_execs_nil ?_
      have k₁ : ∀ b o, b ≠ I → h.get? b = some o → h₁.get? b = some o := fun b o hb e => he₁ b o hb e
      refine done m' (n'.filter fun p => decide (p.1 ≠ I)) h₁ tk (hsz ▸ hJ _ _ _ _ I nI keepJ hJ' fun p hp hni => ?_) (fr_but' F' k₁ hLI hI0) fun p hp => ?_
      · rw [List.mem_filter, decide_eq_true_eq]
        exact ⟨hp, hni⟩
      · rw [List.mem_filter, decide_eq_true_eq] at hp
        exact ⟨k₁ _ _ hp.2 (N' _ hp.1).1, (N' _ hp.1).2⟩
  · intro p hp
    rcases List.mem_cons.mp hp with rfl | hp
    · exact ⟨hI ▸ Heap.get?_push_size _ rfl, Ne.symm hLI, hI0⟩
    · exact ⟨up _ _ (N _ hp).1, (N _ hp).2⟩

theorem assign_pair {x₁ x₂ : Str} {p₁ p₂ p : Pos} {k : Nat} {t : Addr} {a b : Value} {n : Nat} {Q : Unit → Shared → Prop} (hh : A.handled = none) (F : Fr h₀ env.locals s.heap m) (N : News h₀ env.locals s.heap news)
    (ht : (t, ({ cls := .type "tuple", data := .seq #[a, b] n } : Obj)) ∈ news) (h1 : env.kindOf x₁ = some .local) (h2 : env.kindOf x₂ = some .local) (hp : (env.scope.kind == .class || (env.scope.kind == .module && env.locals != env.globals)) = false)
    (h : ∀ h' tk, Fr h₀ env.locals h' (fun y => if y = x₂ then some b else if y = x₁ then some a else m y) → News h₀ env.locals h' news → Q () { s with heap := h', toks := tk }) :
    wpAny (model prog w) A (assign (.Tuple [.Name x₁ p₁, .Name x₂ p₂] k p) env (.ref t)) Q E s := by
  refine unpackN_ F N (items := #[a, b]) (N.isTup ht) hh rfl rfl fun h' F' N' => ?_
  show wpAny _ _ (assignInOrder [assign (.Name x₁ p₁) env, assign (.Name x₂ p₂) env] [a, b]) _ _ _
  refine assignInOrder_cons (wpAny_assign_Name (wpAny_storeName_local h1 F'.ns (fun h₂ hn₂ hs₂ => ?_) hp))
  refine assignInOrder_cons (wpAny_assign_Name (wpAny_storeName_local h2 hn₂ (fun h₃ hn₃ hs₃ => assignInOrder_nil ?_) hp))
  exact h h₃ _ ((F'.set hn₂ hs₂).set hn₃ hs₃) ((N'.set hs₂).set hs₃)
theorem assign_name {x₁ : Str} {p₁ : Pos} {v : Value} {Q : Unit → Shared → Prop} (F : Fr h₀ env.locals s.heap m) (N : News h₀ env.locals s.heap news)
    (h1 : env.kindOf x₁ = some .local) (hp : (env.scope.kind == .class || (env.scope.kind == .module && env.locals != env.globals)) = false)
    (h : ∀ h' tk, Fr h₀ env.locals h' (fun y => if y = x₁ then some v else m y) → News h₀ env.locals h' news → Q () { s with heap := h', toks := tk }) :
    wpAny (model prog w) A (assign (.Name x₁ p₁) env v) Q E s :=
  wpAny_assign_Name (wpAny_storeName_local h1 F.ns (fun h₂ hn₂ hs₂ => h h₂ _ (F.set hn₂ hs₂) (N.set hs₂)) hp)

/-- «for k, v in D.items():» -/
theorem for_items_exec {d : Addr} {od : Obj} {K : Type} [DecidableEq K] {knd : KeyKind prog w K} {elts : List Expr} {x1 : Nat} {pt apos cpos pos : Pos} {o : Expr} {body : List Stmt} {kvs : List (K × Value)} {Q : Flow → Shared → Prop} (J : Nat → (Str → Option Value) → List (Addr × Obj) → Prop)
    (hh : A.handled = none) (F : Fr h₀ env.locals s.heap m) (N : News h₀ env.locals s.heap news)
    (hbase : attributeBase o "items" env (eval o env) = eval o env) (hline : (apos.endLine == cpos.line) = true) (ho : ∀ Q' : Value → Shared → Prop, Q' (.ref d) s → wpAny (model prog w) A (eval o env) Q' E s)
    (hlo : (d == sysModules) = false) (hd : od.IsDictOf knd kvs)
    (hJ : ∀ i m n n' I, (∀ p ∈ news, p.1 ≠ I) → (∀ p ∈ n, isIter p.2 = false → p.1 ≠ I) → J i m n → (∀ p ∈ n, p.1 ≠ I → p ∈ n') → J i m n') (hl : ∀ i m n', J i m n' → (d, od) ∈ n') (j0 : J 0 m news)
    (turn : ∀ i k v key t m₁ n₁ h tk it, kvs[i]? = some (k, v) → knd.is k key = true → (t, ({ cls := .type "tuple", data := .seq #[key, v] } : Obj)) ∈ n₁ → J i m₁ n₁ → isIter it.2 = true → it ∈ n₁ → Fr h₀ env.locals h m₁ → News h₀ env.locals h n₁ →
      wpAny (model prog w) A (assign (.Tuple elts x1 pt) env (.ref t)) (fun _ s₂ => wpAny (model prog w) A (execs body env) (TurnEnd h₀ env.locals s it (J (i + 1)) Q) (notedBy (model prog w) A env fun e s' => cameBackBy (model prog w) A env E e s') s₂)
        (notedBy (model prog w) A env fun e s' => cameBackBy (model prog w) A env E e s') { s with heap := h, toks := tk })
    (done : ∀ m₁ n₁ h tk, J kvs.length m₁ n₁ → Fr h₀ env.locals h m₁ → News h₀ env.locals h n₁ → Q .next { s with heap := h, toks := tk })
    (hs : ∀ x, foldedSetIterable (.Call (.Attribute o "items" apos) [] [] cpos) env x = pure x := by intro _; rfl) :
    wpAny (model prog w) A (exec (.For (.Tuple elts x1 pt) (.Call (.Attribute o "items" apos) [] [] cpos) body [] pos) env) Q E s := by
  have z := N _ (hl _ _ _ j0)
  refine wpAny_For (wpAny_Call_items (knd := knd) (kvs := kvs) hlo ?_ hbase hline ho ?_) hs
  · obtain ⟨es, ep, r⟩ := hd
    exact ⟨od, es, ep, z.1, r⟩
  · exact for_items (s := { s with heap := s.heap.push { cls := .type "dict_items", data := .fields #[.ref d] } }) J hh (F.push _) (N.push F _) (fun i m n n' I h1 h2 h3 h4 => hJ i m n n' I (fun p hp => h1 p (.tail _ hp)) h2 h3 h4) (.head _) hl hd (hJ _ _ _ _ s.heap.objs.size (fun p hp => Nat.ne_of_lt (Heap.lt_size (N p hp).1)) (fun p hp _ => Nat.ne_of_lt (Heap.lt_size (N p hp).1)) j0 fun p hp _ => .tail _ hp) turn done

/-- a loop's word that keeps the frame's map and all the ledger -/
def KeepJ (M : Str → Option Value) (n₀ : List (Addr × Obj)) : Nat → (Str → Option Value) → List (Addr × Obj) → Prop := fun _ m' n' => m' = M ∧ ∀ p ∈ n₀, p ∈ n'
theorem KeepJ.start {M : Str → Option Value} {n₀ : List (Addr × Obj)} {i : Nat} : KeepJ M n₀ i M n₀ := ⟨rfl, fun _ h => h⟩
theorem KeepJ.mono {M : Str → Option Value} {n₀ : List (Addr × Obj)} (i : Nat) (m : Str → Option Value) (n n' : List (Addr × Obj)) (I : Addr) (h1 : ∀ p ∈ n₀, p.1 ≠ I) (_h2 : ∀ p ∈ n, isIter p.2 = false → p.1 ≠ I) (h3 : KeepJ M n₀ i m n) (h4 : ∀ p ∈ n, p.1 ≠ I → p ∈ n') : KeepJ M n₀ i m n' :=
  ⟨h3.1, fun p hp => h4 p (h3.2 p hp) (h1 p hp)⟩

/-- a map with two names laid over it -/
abbrev over2 (x₁ x₂ : Str) (u₁ u₂ : Option Value) (M : Str → Option Value) : Str → Option Value := fun y => if y = x₂ then u₂ else if y = x₁ then u₁ else M y
theorem over2_self (x₁ x₂ : Str) (M : Str → Option Value) : over2 x₁ x₂ (M x₁) (M x₂) M = M := by
  funext y
  unfold over2
  split
  · rename_i h; rw [h]
  · split
    · rename_i h; rw [h]
    · rfl
theorem over2_over {x₁ x₂ : Str} {u₁ u₂ v₁ v₂ : Option Value} {M : Str → Option Value} : over2 x₁ x₂ u₁ u₂ (over2 x₁ x₂ v₁ v₂ M) = over2 x₁ x₂ u₁ u₂ M := by
  funext y
  unfold over2
  split
  · rfl
  · rename_i h
    split
    · rfl
    · rfl
abbrev over1 (x₁ : Str) (u₁ : Option Value) (M : Str → Option Value) : Str → Option Value := fun y => if y = x₁ then u₁ else M y
theorem over1_self (x₁ : Str) (M : Str → Option Value) : over1 x₁ (M x₁) M = M := by
  funext y
  unfold over1
  split
  · rename_i h; rw [h]
  · rfl
theorem over1_over {x₁ : Str} {u₁ v₁ : Option Value} {M : Str → Option Value} : over1 x₁ u₁ (over1 x₁ v₁ M) = over1 x₁ u₁ M := by
  funext y
  unfold over1
  split
  · rfl
  · rfl
def Keep2 (x₁ x₂ : Str) (M : Str → Option Value) (n₀ : List (Addr × Obj)) : Nat → (Str → Option Value) → List (Addr × Obj) → Prop := fun _ m' n' => (∃ u₁ u₂, m' = over2 x₁ x₂ u₁ u₂ M) ∧ ∀ p ∈ n₀, p ∈ n'
theorem Keep2.start {x₁ x₂ : Str} {M : Str → Option Value} {n₀ : List (Addr × Obj)} {i : Nat} : Keep2 x₁ x₂ M n₀ i M n₀ := ⟨⟨_, _, (over2_self _ _ _).symm⟩, fun _ h => h⟩
theorem Keep2.mono {x₁ x₂ : Str} {M : Str → Option Value} {n₀ : List (Addr × Obj)} (i : Nat) (m : Str → Option Value) (n n' : List (Addr × Obj)) (I : Addr) (h1 : ∀ p ∈ n₀, p.1 ≠ I) (_h2 : ∀ p ∈ n, isIter p.2 = false → p.1 ≠ I) (h3 : Keep2 x₁ x₂ M n₀ i m n) (h4 : ∀ p ∈ n, p.1 ≠ I → p ∈ n') : Keep2 x₁ x₂ M n₀ i m n' :=
  ⟨h3.1, fun p hp => h4 p (h3.2 p hp) (h1 p hp)⟩
end
end Mine
namespace Mine
/-- every entry but those at l stays -/
def Kept (l : Addr) (n n' : List (Addr × Obj)) : Prop := ∀ p ∈ n, p.1 ≠ l → p ∈ n'
theorem Kept.mem {l a : Addr} {o : Obj} {n n' : List (Addr × Obj)} (k : Kept l n n') (h : (a, o) ∈ n) (hne : a ≠ l) : (a, o) ∈ n' := k _ h hne
theorem Kept.upd {l : Addr} {o : Obj} {n : List (Addr × Obj)} : Kept l n (upd l o n) := fun _ hp hne => mem_upd hp hne
theorem Kept.sub {l : Addr} {a b n' : List (Addr × Obj)} (k : Kept l b n') (h : ∀ p ∈ a, p ∈ b) : Kept l a n' := fun p hp hne => k p (h p hp) hne
/-- every entry but those at l and at t stays -/
def Kept2 (l t : Addr) (n n' : List (Addr × Obj)) : Prop := ∀ p ∈ n, p.1 ≠ l → p.1 ≠ t → p ∈ n'
theorem Kept2.start {l t : Addr} {n : List (Addr × Obj)} : Kept2 l t n n := fun _ h _ _ => h
theorem Kept2.mem {l t a : Addr} {o : Obj} {n n' : List (Addr × Obj)} (k : Kept2 l t n n') (h : (a, o) ∈ n) (h1 : a ≠ l) (h2 : a ≠ t) : (a, o) ∈ n' := k _ h h1 h2
theorem Kept2.iter {l t I : Addr} {n₀ n n' : List (Addr × Obj)} (k : Kept2 l t n₀ n) (h0 : ∀ p ∈ n₀, p.1 ≠ I) (h : ∀ p ∈ n, p.1 ≠ I → p ∈ n') : Kept2 l t n₀ n' := fun p hp h1 h2 => h p (k p hp h1 h2) (h0 p hp)
theorem Kept2.left {l t : Addr} {n₀ n n' : List (Addr × Obj)} (k : Kept2 l t n₀ n) (h : Kept l n n') : Kept2 l t n₀ n' := fun p hp h1 h2 => h p (k p hp h1 h2) h1
theorem Kept2.right {l t : Addr} {n₀ n n' : List (Addr × Obj)} (k : Kept2 l t n₀ n) (h : Kept t n n') : Kept2 l t n₀ n' := fun p hp h1 h2 => h p (k p hp h1 h2) h2
theorem Kept2.both {l t : Addr} {n₀ n n' : List (Addr × Obj)} (k : Kept2 l t n₀ n) (h : Kept2 l t n n') : Kept2 l t n₀ n' := fun p hp h1 h2 => h p (k p hp h1 h2) h1 h2
theorem Kept2.tail {l t : Addr} {e : Addr × Obj} {n₀ n : List (Addr × Obj)} (k : Kept2 l t n₀ n) : Kept2 l t n₀ (e :: n) := fun p hp h1 h2 => .tail _ (k p hp h1 h2)
theorem Kept2.of_cons {l t : Addr} {e : Addr × Obj} {n n' : List (Addr × Obj)} (k : Kept2 l t (e :: n) n') : Kept2 l t n n' := fun p hp h1 h2 => k p (.tail _ hp) h1 h2
theorem Kept2.of_left {l t : Addr} {n n' : List (Addr × Obj)} (h : Kept l n n') : Kept2 l t n n' := fun p hp h1 _ => h p hp h1
theorem Kept2.of_right {l t : Addr} {n n' : List (Addr × Obj)} (h : Kept t n n') : Kept2 l t n n' := fun p hp _ h2 => h p hp h2
/-- a frame's map that is M outside the names S -/
def Agree (S : List Str) (M m : Str → Option Value) : Prop := ∀ y, y ∉ S → m y = M y
theorem Agree.start {S : List Str} {M : Str → Option Value} : Agree S M M := fun _ _ => rfl
theorem Agree.set {S : List Str} {M m : Str → Option Value} {x : Str} {v : Option Value} (h : Agree S M m) (hx : x ∈ S) : Agree S M (fun y => if y = x then v else m y) := fun y hy => by
  show (if y = x then v else m y) = M y
  have hne : ¬ y = x := fun e => hy (by rw [e]; exact hx)
  rw [if_neg hne]
  exact h y hy
def overL : List Str → (Str → Option Value) → (Str → Option Value) → Str → Option Value
  | [], _, M => M
  | a :: r, u, M => fun y => if y = a then u a else overL r u M y
theorem Agree.over : ∀ {S : List Str} {M m : Str → Option Value}, Agree S M m → m = overL S m M
  | [], M, m, h => by funext y; exact h y (by simp)
  | a :: r, M, m, h => by
    funext y
    show m y = if y = a then m a else overL r m M y
    by_cases e : y = a
    · rw [if_pos e, e]
    · rw [if_neg e]
      by_cases hr : y ∈ r
      · clear h
        induction r with
        | nil => cases hr
        | cons b r ih =>
          show m y = if y = b then m b else overL r m M y
          by_cases e2 : y = b
          · rw [if_pos e2, e2]
          · rw [if_neg e2]
            exact ih ((List.mem_cons.mp hr).resolve_left e2)
      · rw [h y (fun hy => (List.mem_cons.mp hy).elim e hr)]
        clear h
        induction r with
        | nil => rfl
        | cons b r ih =>
          show M y = if y = b then m b else overL r m M y
          have hne : ¬ y = b := fun e => hr (by rw [e]; exact List.mem_cons_self ..)
          rw [if_neg hne]
          exact ih fun hy => hr (.tail _ hy)
theorem iter_ne {h₀ h : Heap} {L l : Addr} {it : Addr × Obj} {o : Obj} {news : List (Addr × Obj)} (N : News h₀ L h news) (hi : isIter it.2 = true) (hm : it ∈ news) (hl : (l, o) ∈ news) (ho : isIter o = false) : it.1 ≠ l := by
  intro e
  have e1 := (N _ hm).1
  rw [e, (N _ hl).1] at e1
  cases e1
  rw [ho] at hi
  cases hi
theorem isIter_list {a : Array Value} {n : Nat} : isIter (listOf a n) = false := by show iterNames.contains "list" = false; decide
theorem handled_deeper {A : Around} {e : Env} (h : A.handled = none) : (A.deeper e).handled = none := h
theorem kept2_lt {l t D : Addr} {o o' : Obj} {n n' : List (Addr × Obj)} (hK : Kept2 l t n n') (l1 : ∀ q ∈ n', q.1 < D) (hl : (l, o) ∈ n') (ht : (t, o') ∈ n') : ∀ q ∈ n, q.1 < D := fun q hq => by
  by_cases e1 : q.1 = l
  · rw [e1]; exact l1 _ hl
  · by_cases e2 : q.1 = t
    · rw [e2]; exact l1 _ ht
    · exact l1 _ (hK q hq e1 e2)
/-- own append: the list's new entry, all others kept -/
theorem append_K {prog : Program} {w : World} {A : Around} {E : Value → Shared → Prop} {s : Shared} {h₀ : Heap} {L l : Addr} {m : Str → Option Value} {news : List (Addr × Obj)} {its : Array Value} {n : Nat} {x : Value} {Q : Value → Shared → Prop} (F : Fr h₀ L s.heap m) (N : News h₀ L s.heap news) (hl : (l, listOf its n) ∈ news) (hsz : its.size ≤ sizeLine)
    (h : ∀ h' news', Fr h₀ L h' m → News h₀ L h' news' → Kept l news news' → (l, listOf (its.push x) (n + 1)) ∈ news' → Q .none { s with heap := h' }) : wpAny (model prog w) A (call (.builtin "list.append") [.ref l, x]) Q E s :=
  append_L (hsz := hsz) F N hl fun h' F' N' => h h' _ F' N' Kept.upd (mem_upd_self hl)
section
variable {M : Model} {A : Around} {E : Value → Shared → Prop} {s : Shared} {K : Frag} {x C L f : Addr} {h₀ : Heap} {m : Str → Option Value} {ox : Obj} {od : Option Obj} {i v : Value}
theorem delItem_own {Q : Unit → Shared → Prop} (F : Fr h₀ L s.heap m) (X₀ : K.In h₀) (I : InstAt s.heap x ox C od) (hq : noSeq K C = true) (hs : findIn K (.ref C) "__delitem__" = some (some (.ref f))) (hf : isFn K (.ref f) = true)
    (h : wpAny M A (call (.ref f) [.ref x, i]) (fun _ s' => Q () s') E s) : wpAny M A (delItem (.ref x) i) Q E s := by
  have X := X₀.keeps F.keep
  unfold delItem sequenceKey
  refine wpAny_holding (wpAny_bind (wpAny_bind (I.type.here ?_)))
  refine wpAny_bind ((anyM_none X hq).here ?_)
  rw [if_pos (show (!false) = true from rfl)]
  exact wpAny_pure (wpAny_bind (special_fn X I hs (beq_iff_eq.mp hf) (wpAny_mono h (fun _ _ z => wpAny_pure z) fun _ _ z => z)))
end
end Mine
namespace Mine
section
variable {prog : Program} {w : World} {A : Around} {E : Value → Shared → Prop} {s : Shared} {h₀ : Heap} {m : Str → Option Value} {news : List (Addr × Obj)} {env : Env}
/-- a for loop over a text of ASCII signs -/
theorem for_str {x : Str} {tx : Tok} {target : Expr} {body : List Stmt} {Q : Flow → Shared → Prop} (J : Nat → (Str → Option Value) → List (Addr × Obj) → Prop)
    (hh : A.handled = none) (F : Fr h₀ env.locals s.heap m) (N : News h₀ env.locals s.heap news) (ha : x.cps.all (· < 128) = true) (ht : ∀ it v, letOwnedTupleGo target it v = pure ())
    (hJ : ∀ i m n n' I, (∀ p ∈ news, p.1 ≠ I) → (∀ p ∈ n, isIter p.2 = false → p.1 ≠ I) → J i m n → (∀ p ∈ n, p.1 ≠ I → p ∈ n') → J i m n') (j0 : J 0 m news)
    (turn : ∀ i c tv m₁ n₁ h tk it, x.cps[i]? = some c → J i m₁ n₁ → isIter it.2 = true → it ∈ n₁ → Fr h₀ env.locals h m₁ → News h₀ env.locals h n₁ →
      wpAny (model prog w) A (assign target env (.str ⟨#[c]⟩ tv)) (fun _ s₂ => wpAny (model prog w) A (execs body env) (TurnEnd h₀ env.locals s it (J (i + 1)) Q) (notedBy (model prog w) A env fun e s' => cameBackBy (model prog w) A env E e s') s₂)
        (notedBy (model prog w) A env fun e s' => cameBackBy (model prog w) A env E e s') { s with heap := h, toks := tk })
    (done : ∀ m₁ n₁ h tk, J x.cps.size m₁ n₁ → Fr h₀ env.locals h m₁ → News h₀ env.locals h n₁ → Q .next { s with heap := h, toks := tk }) :
    wpAny (model prog w) A (pyIter (.str x tx)) (fun it s₂ => codeAny (model prog w) A (.forLoop target it body [] env) (fun r s' => match r with | .ok f => Q f s' | .error e => cameBackBy (model prog w) A env E e s') s₂) E s := by
  refine wpAny_pyIter_ascii ha ?_
  have up : ∀ b' o, s.heap.get? b' = some o → (s.heap.push { cls := .type "str_ascii_iterator", data := .fields #[.str x tx, .int 0 0] }).get? b' = some o := fun b o e => Heap.get?_push_of_some _ e
  have hLI : env.locals ≠ s.heap.objs.size := Nat.ne_of_lt F.ns.lt
  have hI0 : h₀.get? s.heap.objs.size = none := next_is_new F
  have nI : ∀ p ∈ news, p.1 ≠ s.heap.objs.size := fun p hp => Nat.ne_of_lt (Heap.lt_size (N p hp).1)
  generalize hI : s.heap.objs.size = I at *
  refine codeAny_forLoop
    (fun k s' => ∃ h' tk m' n' i oI, s' = { s with heap := h', toks := tk } ∧ oI.cls = .type "str_ascii_iterator" ∧ oI.data = .fields #[.str x tx, .int ((i : Nat) : Int) 0] ∧ Fr h₀ env.locals h' m' ∧ News h₀ env.locals h' n' ∧ (I, oI) ∈ n' ∧ J i m' n' ∧ i ≤ x.cps.size ∧
      k = x.cps.size + 1 - i) ?_ (x.cps.size + 1) ⟨_, s.toks, m, (I, { cls := .type "str_ascii_iterator", data := .fields #[.str x tx, .int 0 0] }) :: news, 0, _, rfl, rfl, rfl, F.push _, ?_, .head _, hJ _ _ _ _ I nI (fun p hp _ => nI p hp) j0 (fun p hp _ => .tail _ hp), Nat.zero_le _, rfl⟩ (fun v => ht _ v)
  · rintro k s' ⟨h, tk, m', n', i, oI, rfl, hc, hd, F', N', hm, hJ', hi, rfl⟩
    have eI := (N' _ hm).1
    have hit : h.IsStrIter I "str_ascii_iterator" x tx i := ⟨oI, eI, hc, hd⟩
    have keepJ : ∀ (p : Addr × Obj), p ∈ n' → isIter p.2 = false → p.1 ≠ I := fun p hp hni e => by
      have e1 := (N' _ hp).1
      rw [e, eI] at e1
      exact isIter_absurd (by rw [← Option.some.inj e1]; exact hc) (by decide) hni
    cases hv : x.cps[i]? with
    | none =>
      have hsz : i = x.cps.size := Nat.le_antisymm hi (by simpa using hv)
      refine wpAny_pyNext_ascii_end hh hit hv fun h₁ he₁ => wpAny_execs_nil ?_
      have k₁ : ∀ b o, b ≠ I → h.get? b = some o → h₁.get? b = some o := fun b o hb e => he₁ b o hb e
      refine done m' (n'.filter fun p => decide (p.1 ≠ I)) h₁ tk (hsz ▸ hJ _ _ _ _ I nI keepJ hJ' fun p hp hni => ?_) (fr_but' F' k₁ hLI hI0) fun p hp => ?_
      · rw [List.mem_filter, decide_eq_true_eq]
        exact ⟨hp, hni⟩
      · rw [List.mem_filter, decide_eq_true_eq] at hp
        exact ⟨k₁ _ _ hp.2 (N' _ hp.1).1, (N' _ hp.1).2⟩
    | some c =>
      have hlt : i < x.cps.size := (Array.getElem?_eq_some_iff.mp hv).1
      refine wpAny_pyNext_ascii_item hit hv fun h₁ hit₁ hs₁ => ?_
      have k₁ : ∀ b o, b ≠ I → h.get? b = some o → h₁.get? b = some o := fun b o hb e => hs₁.extBut b o hb e
      dsimp only
      obtain ⟨o₁, e₁, c₁, d₁⟩ := id hit₁
      have ii : isIter o₁ = true := isIter_of c₁ (by decide)
      refine wpAny_mono (turn i c tk m' ((I, o₁) :: n'.filter fun p => decide (p.1 ≠ I)) h₁ (tk + 1) (I, o₁) hv (hJ _ _ _ _ I nI keepJ hJ' fun p hp hni => ?_) ii (.head _) (fr_but' F' k₁ hLI hI0) fun p hp => ?_) (fun _ s₂ h₂ => wpAny_mono h₂ (fun f s₃ h₃ => ?_) fun _ _ x => x) fun _ _ x => x
      · refine List.mem_cons_of_mem _ ?_
        rw [List.mem_filter, decide_eq_true_eq]
        exact ⟨hp, hni⟩
      · rcases List.mem_cons.mp hp with rfl | hp
        · exact ⟨e₁, Ne.symm hLI, hI0⟩
        · rw [List.mem_filter, decide_eq_true_eq] at hp
          exact ⟨k₁ _ _ hp.2 (N' _ hp.1).1, (N' _ hp.1).2⟩
      · have go : (∃ h' t' m₂ n₂, s₃ = { s with heap := h', toks := t' } ∧ Fr h₀ env.locals h' m₂ ∧ News h₀ env.locals h' n₂ ∧ (I, o₁) ∈ n₂ ∧ J (i + 1) m₂ n₂) → ∃ m_1, m_1 < x.cps.size + 1 - i ∧ ∃ h' tk m' n' i oI, s₃ = { s with heap := h', toks := tk } ∧ oI.cls = .type "str_ascii_iterator" ∧ oI.data = .fields #[.str x tx, .int ((i : Nat) : Int) 0] ∧ Fr h₀ env.locals h' m' ∧ News h₀ env.locals h' n' ∧ (I, oI) ∈ n' ∧ J i m' n' ∧ i ≤ x.cps.size ∧
            m_1 = x.cps.size + 1 - i := by
          rintro ⟨h', t', m₂, n₂, rfl, F₂, N₂, hm₂, hJ₂⟩
          exact ⟨x.cps.size + 1 - (i + 1), by omega, h', t', m₂, n₂, i + 1, o₁, rfl, c₁, by rw [d₁], F₂, N₂, hm₂, hJ₂, hlt, rfl⟩
        cases f with
        | ret v => exact h₃
        | brk => exact h₃
        | next => exact go h₃
        | cont => exact go h₃
  · intro p hp
    rcases List.mem_cons.mp hp with rfl | hp
    · exact ⟨hI ▸ Heap.get?_push_size _ rfl, Ne.symm hLI, hI0⟩
    · exact ⟨up _ _ (N _ hp).1, (N _ hp).2⟩
/-- the pairs of a list outlive what keeps all but two lists -/
theorem kept2_pairs {h : Heap} {L l t : Addr} {a b : Array Value} {i j : Nat} {n n' : List (Addr × Obj)} {its : List Value} {ps : List (Str × Value)} (N : News h₀ L h n) (hl : (l, listOf a i) ∈ n) (ht : (t, listOf b j) ∈ n) (P : PairsN n its ps) (K : Kept2 l t n n') : PairsN n' its ps :=
  Paired.imp P fun v q ⟨t', tk, e, hm, hs⟩ => ⟨t', tk, e, K _ hm (news_ne N hm hl (by show Value.type "tuple" ≠ Value.type "list"; decide)) (news_ne N hm ht (by show Value.type "tuple" ≠ Value.type "list"; decide)), hs⟩
theorem PairsN.kept {h : Heap} {L l : Addr} {a : Array Value} {i : Nat} {n n' : List (Addr × Obj)} {its : List Value} {ps : List (Str × Value)} (N : News h₀ L h n) (hl : (l, listOf a i) ∈ n) (P : PairsN n its ps) (K : Kept l n n') : PairsN n' its ps :=
  Paired.imp P fun v q ⟨t', tk, e, hm, hs⟩ => ⟨t', tk, e, K _ hm (news_ne N hm hl (by show Value.type "tuple" ≠ Value.type "list"; decide)), hs⟩
/-- a loop's word over one growing list of pairs -/
def JL (g : Addr) (S : List Str) (M : Str → Option Value) (n₀ : List (Addr × Obj)) (R : Nat → List (Str × Value) → Prop) : Nat → (Str → Option Value) → List (Addr × Obj) → Prop := fun i m' n' =>
  Agree S M m' ∧ Kept g n₀ n' ∧ ∃ ps its k, R i ps ∧ (g, listOf its k) ∈ n' ∧ PairsN n' its.toList ps
theorem JL.mono {g : Addr} {S : List Str} {M : Str → Option Value} {n₀ : List (Addr × Obj)} {R : Nat → List (Str × Value) → Prop} (i : Nat) (m : Str → Option Value) (n n' : List (Addr × Obj)) (I : Addr) (h1 : ∀ p ∈ n₀, p.1 ≠ I) (h2 : ∀ p ∈ n, isIter p.2 = false → p.1 ≠ I) (h3 : JL g S M n₀ R i m n) (h4 : ∀ p ∈ n, p.1 ≠ I → p ∈ n') : JL g S M n₀ R i m n' := by
  obtain ⟨hA, hK, ps, its, k, hR, ht, hP⟩ := h3
  exact ⟨hA, fun p hp hne => h4 p (hK p hp hne) (h1 p hp), ps, its, k, hR, h4 _ ht (h2 _ ht isIter_list), Paired.imp hP fun v q ⟨t', tk, e, hm, hs⟩ => ⟨t', tk, e, h4 _ hm (h2 _ hm (by show iterNames.contains "tuple" = false; decide)), hs⟩⟩
theorem loop_pairs {g r : Addr} {a b : Int} {tu tv tw : Tok} {N₁ : Nat} {its₀ : Array Value} {k₀ : Nat} {ps : List (Str × Value)} {target : Expr} {body : List Stmt} {Q : Flow → Shared → Prop} (S : List Str) (R : Nat → List (Str × Value) → Prop)
    (hh : A.handled = none) (F : Fr h₀ env.locals s.heap m) (N : News h₀ env.locals s.heap news)
    (hr : IsRange s.heap r a b 1 tu tv tw) (hsm : Builtin.Range.small a b 1 = true) (hn : Builtin.Range.rangeSize a b 1 = ((N₁ : Nat) : Int)) (htg : ∀ it v, letOwnedTupleGo target it v = pure ())
    (hg : (g, listOf its₀ k₀) ∈ news) (hP : PairsN news its₀.toList ps) (hR : R 0 ps)
    (turn : ∀ i tv u n₁ h tk it ps' its' k', i < N₁ → R i ps' → (g, listOf its' k') ∈ n₁ → PairsN n₁ its'.toList ps' → Kept g news n₁ → it ∈ n₁ → it.1 ≠ g → Fr h₀ env.locals h (overL S u m) → News h₀ env.locals h n₁ →
      wpAny (model prog w) A (assign target env (.int (a + (i : Nat)) tv)) (fun _ s₂ => wpAny (model prog w) A (execs body env) (TurnEnd h₀ env.locals s it (JL g S m news R (i + 1)) Q) (notedBy (model prog w) A env fun e s' => cameBackBy (model prog w) A env E e s') s₂)
        (notedBy (model prog w) A env fun e s' => cameBackBy (model prog w) A env E e s') { s with heap := h, toks := tk })
    (done : ∀ u n₁ h tk ps' its' k', R N₁ ps' → (g, listOf its' k') ∈ n₁ → PairsN n₁ its'.toList ps' → Kept g news n₁ → Fr h₀ env.locals h (overL S u m) → News h₀ env.locals h n₁ → Q .next { s with heap := h, toks := tk }) :
    wpAny (model prog w) A (pyIter (.ref r)) (fun it s₂ => codeAny (model prog w) A (.forLoop target it body [] env) (fun r s' => match r with | .ok f => Q f s' | .error e => cameBackBy (model prog w) A env E e s') s₂) E s := by
  refine for_range (JL g S m news R) hh F N hr hsm hn htg JL.mono ⟨Agree.start, fun _ h _ => h, ps, _, _, hR, hg, hP⟩ ?_ ?_
  · rintro i v m₁ n₁ h tk it e ⟨hA, hK, ps', its', k', hR', hg', hP'⟩ him hit F' N'
    obtain ⟨u, rfl⟩ : ∃ u, m₁ = overL S u m := ⟨_, hA.over⟩
    exact turn i v u n₁ h tk it ps' its' k' e hR' hg' hP' hK hit (iter_ne N' him hit hg' isIter_list) F' N'
  · rintro m₁ n₁ h tk ⟨hA, hK, ps', its', k', hR', hg', hP'⟩ F' N'
    obtain ⟨u, rfl⟩ : ∃ u, m₁ = overL S u m := ⟨_, hA.over⟩
    exact done u n₁ h tk ps' its' k' hR' hg' hP' hK F' N'
end
end Mine
namespace Mine
section
variable {prog : Program} {w : World} {A : Around} {E : Value → Shared → Prop} {s : Shared} {h₀ : Heap} {L : Addr} {m : Str → Option Value} {news : List (Addr × Obj)} {env : Env}
/-- a cell's address is no other made object's -/
theorem cell_ne {h : Heap} {a c : Addr} {o o' : Obj} {v : Option Value} (N : News h₀ L h news) (h1 : (a, o) ∈ news) (h2 : (c, o') ∈ news) (hd : o'.data = .cell v) (hn : ∀ v, o.data ≠ .cell v) : a ≠ c := by
  rintro rfl
  have e := (N _ h1).1
  rw [(N _ h2).1] at e
  exact hn v (by rw [show o = o' from (Option.some.inj e).symm]; exact hd)
/-- a store into a cell variable -/
theorem store_cell {a : Addr} {cn : Str} {cs : Scope} {ccd : Value} {cl : List (Str × Addr)} {x : Str} {v : Value} {c : Addr} {o : Obj} {v₀ : Option Value} {Q : Unit → Shared → Prop} (F : Fr h₀ L s.heap m) (N : News h₀ L s.heap news) (hc : cl.lookup x = some c) (hm : (c, o) ∈ news) (hd : o.data = .cell v₀)
    (h : ∀ h' o' n', Fr h₀ L h' m → News h₀ L h' n' → Kept c news n' → (c, o') ∈ n' → o'.data = .cell (some v) → Q () { s with heap := h' })
    (hk : cs.kind = .function := by rfl) (hx : (envX cn cs L a ccd cl).kindOf x = some .cell := by rfl) : wpAny (model prog w) A (storeName (envX cn cs L a ccd cl) x v) Q E s := by
  have hmem := N _ hm
  refine wpAny_storeName_cell hk hx hc ⟨o, hmem.1, hd⟩ fun h' hv hs => ?_
  obtain ⟨o', ho', hd'⟩ := hv
  refine h h' o' (upd c o' news) ⟨F.ns.sameBut hs (Ne.symm hmem.2.1), fun b ob e => (hs.2 b (fun q => ?_)).trans (F.keep b ob e), F.above⟩ (news_upd N hm hs ho') Kept.upd (mem_upd_self hm) hd'
  rw [q, hmem.2.2] at e; cases e
theorem ints_map {f : Int → Int} : ∀ {vs ys : List Value} {N : Nat} {k : Nat}, vs.length = N → (∀ (j : Nat) (v : Value), vs[j]? = some v → ∃ t, v = Value.int ((k + j : Nat) : Int) t) → Paired (fun v y => ∀ i t, v = Value.int i t → ∃ t', y = Value.int (f i) t') vs ys → IntsAre ys ((List.range' k N).map fun i => f (i : Nat))
  | [], _, _, _, hl, _, hp => by cases hp; cases hl; exact .nil
  | v :: vs, _, N, k, hl, hv, hp => by
    cases hp with
    | @cons _ y _ ys a r =>
      cases N with
      | zero => cases hl
      | succ N =>
        obtain ⟨t, e⟩ := hv 0 v rfl
        obtain ⟨t', e'⟩ := a _ t e
        subst e'
        refine .cons _ _ ?_
        exact ints_map (k := k + 1) (Nat.succ.inj hl) (fun j v hj => by obtain ⟨t, e⟩ := hv (j + 1) v hj; exact ⟨t, by rw [e]; congr 1; omega⟩) r
theorem walks_bound {I : Addr} {fp wr : List Addr} {n : Nat} {P : Nat → Value → Prop} {St : Nat → Heap → Prop} (W : Walks prog w A I fp wr n P St) : Walks prog w A I fp wr n (fun i v => i < n ∧ P i v) St where
  sub := W.sub
  frame := W.frame
  item := fun i s Q E hi st hQ => W.item i s Q E hi st fun v h' tk hP => hQ v h' tk ⟨hi, hP⟩
  done := W.done
  self := W.self
/-- a comprehension of whole numbers over range(N) -/
theorem comp_range {r : Addr} {N : Nat} {tu tv tw : Tok} {scope : Scope} {cl : List (Str × Addr)} {x : Str} {elt : Expr} {f : Int → Int} {Q : Value → Shared → Prop}
    (hh : A.handled = none) (F : Fr h₀ L s.heap m) (N₀ : News h₀ L s.heap news) (hr : IsRange s.heap r 0 (N : Nat) 1 tu tv tw) (hsm : Builtin.Range.small 0 (N : Nat) 1 = true) (hn : Builtin.Range.rangeSize 0 (N : Nat) 1 = ((N : Nat) : Int)) (hsz : N ≤ sizeLine)
    (hq : ∀ (s₃ : Shared) C i t m₃ E', s₃.heap.Ns C m₃ → m₃ x = some (.int i t) → 0 ≤ i → i < (N : Int) → (∀ b o, (∃ o', s.heap.get? b = some o') → s.heap.get? b = some o → s₃.heap.get? b = some o) →
      wpAny (model prog w) A (eval elt (compEnvC scope cl C env)) (fun y s₄ => (∃ t', y = .int (f i) t') ∧ Keeps s₃ s₄) E' s₃)
    (hQ : ∀ D h' tk ys k, Fr h₀ L h' m → News h₀ L h' ((D, listOf ys k) :: news) → IntsAre ys.toList ((List.range N).map fun i => f (i : Nat)) → (∀ q ∈ news, q.1 ≠ D) → Q (.ref D) { s with heap := h', toks := tk }) :
    wpAny (model prog w) A (pyIter (.ref r)) (fun it s₂ => ∃ I fp wr n P St, it = .ref I ∧ Walks prog w A I fp wr n P St ∧ n ≤ sizeLine ∧ St 0 s₂.heap ∧ (∀ b ∈ fp, b < s₂.heap.objs.size) ∧
      QuietOnC prog w A env scope cl x [] elt wr P (fun _ => true) (fun v y => ∀ i t, v = Value.int i t → ∃ t', y = Value.int (f i) t') s₂ ∧
      (∀ D h' tk ys (vs : List Value), s₂.heap.get? D = none → h'.IsList D ys → h'.PlainList D ys → vs.length = n → (∀ j v, vs[j]? = some v → P j v) → Paired (fun v y => ∀ i t, v = Value.int i t → ∃ t', y = Value.int (f i) t') (vs.filter fun _ => true) ys.toList →
        (∀ b o, b ∉ wr → s₂.heap.get? b = some o → h'.get? b = some o) → Q (.ref D) { s₂ with heap := h', toks := tk })) E s := by
  refine wpAny_pyIter_range hr hsm ?_
  rw [hn]
  have up : ∀ b' o, s.heap.get? b' = some o → (s.heap.push { cls := .type "range_iterator", data := .fields #[rawInt 0, rawInt ((N : Nat) : Int), rawInt 1] }).get? b' = some o := fun b o e => Heap.get?_push_of_some _ e
  have hlt : ∀ b o, s.heap.get? b = some o → b ∉ [s.heap.objs.size] := fun b o e hm => by
    rw [List.mem_singleton.mp hm] at e
    exact absurd (Heap.lt_size e) (Nat.lt_irrefl _)
  refine ⟨_, _, _, _, _, _, rfl, walks_bound (Walks.range hh s.heap.objs.size 0 1 N), hsz, ?_, ?_, ⟨fun C i v s₃ m₃ E' hC hP hn₃ hm₃ hk₃ _ => ?_, fun C i v s₃ m₃ E' hC hP _ hn₃ hm₃ hk₃ _ => ?_⟩, ?_⟩
  · have e1 : (0 : Int) + ((0 : Nat) : Int) * 1 = 0 := by decide
    have e2 : (N : Int) - ((0 : Nat) : Int) = N := Int.sub_zero _
    show IsRangeIter _ _ ((0 : Int) + ((0 : Nat) : Int) * 1) ((N : Int) - ((0 : Nat) : Int)) 1
    rw [e1, e2]
    exact Heap.get?_push_size _ rfl
  · intro b hb
    rw [List.mem_singleton.mp hb]
    show _ < (s.heap.push _).objs.size
    rw [Heap.size_push]; exact Nat.lt_succ_self _
  · exact wpAny_pure ⟨rfl, ⟨_, _, rfl, fun _ _ e => e⟩⟩
  · obtain ⟨hi, t, rfl⟩ := hP
    refine wpAny_mono (hq s₃ C (0 + (i : Nat) * 1) t m₃ E' hn₃ hm₃ (by omega) (by omega) fun b o ⟨o', e'⟩ e => hk₃ b o (hlt b o' e') (up b o e)) (fun y s₄ ⟨⟨t', e⟩, k⟩ => ⟨fun j u ej => ?_, k⟩) fun _ _ x => x
    cases ej
    exact ⟨t', e⟩
  · intro D h' tk ys vs hD hlD hpl hlen hP hF hk
    rw [List.filter_eq_self.mpr (fun _ _ => rfl)] at hF
    have keep : ∀ b o, s.heap.get? b = some o → h'.get? b = some o := fun b o e => hk b o (hlt b o e) (up b o e)
    have hD' : s.heap.get? D = none := by
      cases e : s.heap.get? D with
      | none => rfl
      | some o => rw [up D o e] at hD; cases hD
    obtain ⟨k, hpl⟩ := hpl
    have hi := ints_map (k := 0) (f := f) hlen (fun j v hj => by obtain ⟨_, t, e⟩ := hP j v hj; exact ⟨t, by rw [e, Nat.zero_add, Int.zero_add, Int.mul_one]⟩) hF
    rw [← List.range_eq_range'] at hi
    refine hQ D h' tk ys k (F.keeps keep) (fun q hq => ?_) hi (fun q hq e => ?_)
    · rcases List.mem_cons.mp hq with rfl | hq
      · refine ⟨hpl, ?_, ?_⟩
        · rintro rfl
          obtain ⟨oL, _, _, e, _⟩ := F.ns
          rw [hD'] at e; cases e
        · cases e : h₀.get? D with
          | none => rfl
          | some o => rw [F.keep _ _ e] at hD'; cases hD'
      · exact news_keep N₀ keep q hq
    · have := (N₀ q hq).1
      rw [e, hD'] at this; cases this
end
end Mine
namespace Mine
theorem ints_at {cs : List Int} {vs : List Value} (hi : IntsAre vs cs) : ∀ {i : Nat} {c : Int}, cs[i]? = some c → ∃ t, vs[i]? = some (.int c t) := by
  induction hi with
  | nil => intro i c h; simp at h
  | cons y t _ ih =>
    intro i c h
    cases i with
    | zero => cases h; exact ⟨t, rfl⟩
    | succ j => exact ih h
section
variable {prog : Program} {w : World} {A : Around} {s : Shared} {env : Env}
theorem counts_elt {scope : Scope} {cl : List (Str × Addr)} {p1 p2 p3 p4 p5 p6 p7 p8 p9 p10 p11 p12 p13 p14 : Pos} {cc ck D : Addr} {oC oK : Obj} {a : Array Value} {k : Nat} {cs : List Int} {c : Int} {tc : Tok} {H : Heap} {s₃ : Shared} {C : Addr} {i : Int} {t : Tok} {m₃ : Str → Option Value} {E' : Value → Shared → Prop}
    (hk : (compEnvC scope cl C env).scope.kind = .function) (hj : (compEnvC scope cl C env).kindOf (Str.ofString "j") = some .local) (h1 : (compEnvC scope cl C env).kindOf (Str.ofString "cell") = some .cell) (h2 : (compEnvC scope cl C env).kindOf (Str.ofString "counts") = some .cell)
    (l1 : cl.lookup (Str.ofString "cell") = some cc) (l2 : cl.lookup (Str.ofString "counts") = some ck)
    (hC : H.get? cc = some oC) (dC : oC.data = .cell (some (.int c tc))) (hK : H.get? ck = some oK) (dK : oK.data = .cell (some (.ref D))) (hD : H.get? D = some (listOf a k)) (hi : IntsAre a.toList cs) (h5 : cs.length = 5)
    (hn : s₃.heap.Ns C m₃) (hm : m₃ (Str.ofString "j") = some (.int i t)) (h0 : 0 ≤ i) (hN : i < 5) (keep : ∀ b o, (∃ o', H.get? b = some o') → H.get? b = some o → s₃.heap.get? b = some o) :
    wpAny (model prog w) A (eval (.IfExp (.Compare (.Name (Str.ofString "j") p1) [.Eq] [.BinOp (.Name (Str.ofString "cell") p2) .Mod (.Constant (.int 6) 0 p3) p4] p5) (.BinOp (.Subscript (.Name (Str.ofString "counts") p6) (.Name (Str.ofString "j") p7) p8) .Add (.Constant (.int 1) 0 p9) p10) (.Subscript (.Name (Str.ofString "counts") p11) (.Name (Str.ofString "j") p12) p13) p14) (compEnvC scope cl C env))
      (fun y s₄ => (∃ t', y = .int (if i = c.fmod 6 then cs.getD i.toNat 0 + 1 else cs.getD i.toNat 0) t') ∧ Keeps s₃ s₄) E' s₃ := by
  obtain ⟨z, hz⟩ : ∃ z, cs[i.toNat]? = some z := ⟨_, List.getElem?_eq_getElem (by omega)⟩
  have hg : cs.getD i.toNat 0 = z := by simp [List.getD, hz]
  obtain ⟨tz, ez⟩ := ints_at hi hz
  have eC := keep _ _ ⟨_, hC⟩ hC
  have eK := keep _ _ ⟨_, hK⟩ hK
  have eD := keep _ _ ⟨_, hD⟩ hD
  have hL : ∀ tk, (({ s₃ with toks := tk } : Shared)).heap.IsList D a.toList.toArray := fun tk => ⟨_, eD, rfl, k, rfl⟩
  refine IfExp_ (wpAny_isTrue_Compare1 ?_)
  refine wpAny_Name (wpAny_loadName_local hk hj hn hm ?_)
  refine wpAny_BinOp ?_
  refine wpAny_Name (wpAny_loadName_cell hk h1 l1 ⟨oC, eC, dC⟩ ?_)
  refine wpAny_Constant_int ?_
  refine mod_int (by decide) ?_
  refine PyProof.Rows.eq_int ?_
  refine wpAny_truthy_bool ?_
  rw [hg]
  by_cases e : i = c.fmod 6
  · rw [if_pos (show (i == c.fmod 6) = true from by rw [e]; exact beq_self_eq_true _), if_pos e]
    refine wpAny_BinOp ?_
    refine Subscript_ ?_
    refine wpAny_Name (wpAny_loadName_cell hk h2 l2 ⟨oK, eK, dK⟩ ?_)
    refine wpAny_Name (wpAny_loadName_local hk hj hn hm ?_)
    refine item_listL (hL _) (by omega) (by omega) ez ?_
    refine wpAny_Constant_int ?_
    refine PyProof.Rows.add_int ?_
    exact ⟨⟨_, rfl⟩, ⟨_, _, rfl, fun _ _ e => e⟩⟩
  · rw [if_neg (show ¬ (i == c.fmod 6) = true from by rw [beq_iff_eq]; exact e), if_neg e]
    refine Subscript_ ?_
    refine wpAny_Name (wpAny_loadName_cell hk h2 l2 ⟨oK, eK, dK⟩ ?_)
    refine wpAny_Name (wpAny_loadName_local hk hj hn hm ?_)
    refine item_listL (hL _) (by omega) (by omega) ez ?_
    exact ⟨⟨_, rfl⟩, ⟨_, _, rfl, fun _ _ e => e⟩⟩
end
end Mine
namespace Mine
section
variable {prog : Program} {w : World} {A : Around} {E : Value → Shared → Prop} {s : Shared} {h₀ : Heap} {l : Addr} {m : Str → Option Value} {news : List (Addr × Obj)} {env : Env}
theorem for_listN {target : Expr} {body : List Stmt} {its : Array Value} {n : Nat} {Q : Flow → Shared → Prop} (J : Nat → (Str → Option Value) → List (Addr × Obj) → Prop)
    (hh : A.handled = none) (F : Fr h₀ env.locals s.heap m) (N : News h₀ env.locals s.heap news)
    (hJ : ∀ i m n n' I, (∀ p ∈ news, p.1 ≠ I) → (∀ p ∈ n, isIter p.2 = false → p.1 ≠ I) → J i m n → (∀ p ∈ n, p.1 ≠ I → p ∈ n') → J i m n') (hl : ∀ i m n', J i m n' → (l, listOf its n) ∈ n') (j0 : J 0 m news)
    (turn : ∀ i v m₁ n₁ h tk it, its[i]? = some v → J i m₁ n₁ → isIter it.2 = true → it ∈ n₁ → (∀ p ∈ news, p.1 ≠ it.1) → Fr h₀ env.locals h m₁ → News h₀ env.locals h n₁ →
      wpAny (model prog w) A (assign target env v) (fun _ s₂ => wpAny (model prog w) A (execs body env) (TurnEnd h₀ env.locals s it (J (i + 1)) Q) (notedBy (model prog w) A env fun e s' => cameBackBy (model prog w) A env E e s') s₂)
        (notedBy (model prog w) A env fun e s' => cameBackBy (model prog w) A env E e s') { s with heap := h, toks := tk })
    (done : ∀ m₁ n₁ h tk, J its.size m₁ n₁ → Fr h₀ env.locals h m₁ → News h₀ env.locals h n₁ → Q .next { s with heap := h, toks := tk }) :
    wpAny (model prog w) A (pyIter (.ref l)) (fun it s₂ => codeAny (model prog w) A (.forLoop target it body [] env) (fun r s' => match r with | .ok f => Q f s' | .error e => cameBackBy (model prog w) A env E e s') s₂) E s := by
  have z := N _ (hl _ _ _ j0)
  have hL : s.heap.IsList l its := ⟨_, z.1, rfl, n, rfl⟩
  have hlt := Heap.lt_size z.1
  refine wpAny_pyIter_list hL ?_
  have up : ∀ b o, s.heap.get? b = some o → (s.heap.push { cls := .type "list_iterator", data := .fields #[.ref l, .int 0 0] }).get? b = some o := fun b o e => Heap.get?_push_of_some _ e
  have hLI : env.locals ≠ s.heap.objs.size := Nat.ne_of_lt F.ns.lt
  have hI0 : h₀.get? s.heap.objs.size = none := next_is_new F
  have nI : ∀ p ∈ news, p.1 ≠ s.heap.objs.size := fun p hp => Nat.ne_of_lt (Heap.lt_size (N p hp).1)
  generalize hI : s.heap.objs.size = I at *
  refine codeAny_forLoop_any
    (fun k s' => ∃ h' tk m' n' i oI, s' = { s with heap := h', toks := tk } ∧ oI.cls = .type "list_iterator" ∧ oI.data = .fields #[.ref l, .int ((i : Nat) : Int) 0] ∧ Fr h₀ env.locals h' m' ∧ News h₀ env.locals h' n' ∧ (I, oI) ∈ n' ∧ J i m' n' ∧ i ≤ its.size ∧
      k = its.size + 1 - i) ?_ (its.size + 1) ⟨_, s.toks, m, (I, { cls := .type "list_iterator", data := .fields #[.ref l, .int 0 0] }) :: news, 0, _, rfl, rfl, rfl, F.push _, ?_, .head _, hJ _ _ _ _ I nI (fun p hp _ => nI p hp) j0 (fun p hp _ => .tail _ hp), Nat.zero_le _, rfl⟩
  · rintro k s' ⟨h, tk, m', n', i, oI, rfl, hc, hd, F', N', hm, hJ', hi, rfl⟩
    have eI := (N' _ hm).1
    have hit : h.IsListIter I l i := ⟨oI, eI, hc, hd⟩
    have hlm := hl _ _ _ hJ'
    have hls : h.IsList l its := ⟨_, (N' _ hlm).1, rfl, n, rfl⟩
    have keepJ : ∀ (p : Addr × Obj), p ∈ n' → isIter p.2 = false → p.1 ≠ I := fun p hp hni e => by
      have e1 := (N' _ hp).1
      rw [e, eI] at e1
      exact isIter_absurd (by rw [← Option.some.inj e1]; exact hc) (by decide) hni
    cases hv : its[i]? with
    | none =>
      have hsz : i = its.size := Nat.le_antisymm hi (by simpa using hv)
      refine wpAny_pyNext_list_end hh hit hls hv fun h₁ he₁ => wpAny_execs_nil ?_
      have k₁ : ∀ b o, b ≠ I → h.get? b = some o → h₁.get? b = some o := fun b o hb e => he₁ b o hb e
      refine done m' (n'.filter fun p => decide (p.1 ≠ I)) h₁ tk (hsz ▸ hJ _ _ _ _ I nI keepJ hJ' fun p hp hni => ?_) (fr_but' F' k₁ hLI hI0) fun p hp => ?_
      · rw [List.mem_filter, decide_eq_true_eq]
        exact ⟨hp, hni⟩
      · rw [List.mem_filter, decide_eq_true_eq] at hp
        exact ⟨k₁ _ _ hp.2 (N' _ hp.1).1, (N' _ hp.1).2⟩
    | some v =>
      have hlt : i < its.size := (Array.getElem?_eq_some_iff.mp hv).1
      refine wpAny_pyNext_list_item hit hls hv fun h₁ hit₁ hs₁ => ?_
      have k₁ : ∀ b o, b ≠ I → h.get? b = some o → h₁.get? b = some o := fun b o hb e => hs₁.extBut b o hb e
      dsimp only
      refine letOwned_list hit₁ ?_
      obtain ⟨o₁, e₁, c₁, d₁⟩ := id hit₁
      have ii : isIter o₁ = true := isIter_of c₁ (by decide)
      refine wpAny_mono (turn i v m' ((I, o₁) :: n'.filter fun p => decide (p.1 ≠ I)) h₁ tk (I, o₁) hv (hJ _ _ _ _ I nI keepJ hJ' fun p hp hni => ?_) ii (.head _) nI (fr_but' F' k₁ hLI hI0) fun p hp => ?_) (fun _ s₂ h₂ => wpAny_mono h₂ (fun f s₃ h₃ => ?_) fun _ _ x => x) fun _ _ x => x
      · refine List.mem_cons_of_mem _ ?_
        rw [List.mem_filter, decide_eq_true_eq]
        exact ⟨hp, hni⟩
      · rcases List.mem_cons.mp hp with rfl | hp
        · exact ⟨e₁, Ne.symm hLI, hI0⟩
        · rw [List.mem_filter, decide_eq_true_eq] at hp
          exact ⟨k₁ _ _ hp.2 (N' _ hp.1).1, (N' _ hp.1).2⟩
      · have go : (∃ h' t' m₂ n₂, s₃ = { s with heap := h', toks := t' } ∧ Fr h₀ env.locals h' m₂ ∧ News h₀ env.locals h' n₂ ∧ (I, o₁) ∈ n₂ ∧ J (i + 1) m₂ n₂) → ∃ m_1, m_1 < its.size + 1 - i ∧ ∃ h' tk m' n' i oI, s₃ = { s with heap := h', toks := tk } ∧ oI.cls = .type "list_iterator" ∧ oI.data = .fields #[.ref l, .int ((i : Nat) : Int) 0] ∧ Fr h₀ env.locals h' m' ∧ News h₀ env.locals h' n' ∧ (I, oI) ∈ n' ∧ J i m' n' ∧ i ≤ its.size ∧
            m_1 = its.size + 1 - i := by
          rintro ⟨h', t', m₂, n₂, rfl, F₂, N₂, hm₂, hJ₂⟩
          exact ⟨its.size + 1 - (i + 1), by omega, h', t', m₂, n₂, i + 1, o₁, rfl, c₁, by rw [d₁], F₂, N₂, hm₂, hJ₂, hlt, rfl⟩
        cases f with
        | ret v => exact h₃
        | brk => exact h₃
        | next => exact go h₃
        | cont => exact go h₃
  · intro p hp
    rcases List.mem_cons.mp hp with rfl | hp
    · exact ⟨hI ▸ Heap.get?_push_size _ rfl, Ne.symm hLI, hI0⟩
    · exact ⟨up _ _ (N _ hp).1, (N _ hp).2⟩
end
end Mine
namespace Mine
section
variable {prog : Program} {w : World} {A : Around} {E : Value → Shared → Prop} {s : Shared} {h₀ : Heap} {L : Addr} {m : Str → Option Value} {news : List (Addr × Obj)} {env : Env}
/-- [counts[j] + 1 if j == cell % 6 else counts[j] for j in range(5)] -/
theorem ListComp_counts {scope : Scope} {cl : List (Str × Addr)} {p1 p2 p3 p4 p5 p6 p7 p8 p9 p10 p11 p12 p13 p14 px pos : Pos} {iter : Expr} {cc ck D : Addr} {oC oK : Obj} {a : Array Value} {k : Nat} {cs : List Int} {c : Int} {tc : Tok} {Q : Value → Shared → Prop}
    (hh : A.handled = none) (F : Fr h₀ L s.heap m) (N : News h₀ L s.heap news)
    (hC : (cc, oC) ∈ news) (dC : oC.data = .cell (some (.int c tc))) (hK : (ck, oK) ∈ news) (dK : oK.data = .cell (some (.ref D))) (hD : (D, listOf a k) ∈ news) (hi : IntsAre a.toList cs) (h5 : cs.length = 5)
    (hclos : closureFor scope env = pure cl) (hcell : ∀ y ∈ scope.names, y.2 ≠ .cell) (hkind : scope.kind = .function)
    (hnames : ∀ y ∈ scope.names, y.2 = .local → scope.names.lookup y.1 = some .local) (hx : scope.names.lookup (Str.ofString "j") = some .local)
    (hk : ∀ C, (compEnvC scope cl C env).scope.kind = .function) (hj : ∀ C, (compEnvC scope cl C env).kindOf (Str.ofString "j") = some .local) (h1 : ∀ C, (compEnvC scope cl C env).kindOf (Str.ofString "cell") = some .cell) (h2 : ∀ C, (compEnvC scope cl C env).kindOf (Str.ofString "counts") = some .cell)
    (l1 : cl.lookup (Str.ofString "cell") = some cc) (l2 : cl.lookup (Str.ofString "counts") = some ck)
    (hs : ∀ x, foldedSetIterable iter env x = pure x)
    (hiter : ∀ Q' : Value → Shared → Prop, (∀ h' tk r tu tv tw, Fr h₀ L h' m → News h₀ L h' news → IsRange h' r 0 5 1 tu tv tw → Q' (.ref r) { s with heap := h', toks := tk }) → wpAny (model prog w) A (eval iter env) Q' E s)
    (hQ : ∀ D h' tk ys k, Fr h₀ L h' m → News h₀ L h' ((D, listOf ys k) :: news) → IntsAre ys.toList ((List.range 5).map fun i => if ((i : Nat) : Int) = c.fmod 6 then cs.getD ((i : Nat) : Int).toNat 0 + 1 else cs.getD ((i : Nat) : Int).toNat 0) → (∀ q ∈ news, q.1 ≠ D) → Q (.ref D) { s with heap := h', toks := tk }) :
    wpAny (model prog w) A (eval (.ListComp (.IfExp (.Compare (.Name (Str.ofString "j") p1) [.Eq] [.BinOp (.Name (Str.ofString "cell") p2) .Mod (.Constant (.int 6) 0 p3) p4] p5) (.BinOp (.Subscript (.Name (Str.ofString "counts") p6) (.Name (Str.ofString "j") p7) p8) .Add (.Constant (.int 1) 0 p9) p10) (.Subscript (.Name (Str.ofString "counts") p11) (.Name (Str.ofString "j") p12) p13) p14)
      [⟨.Name (Str.ofString "j") px, iter, [], 0⟩] scope pos) env) Q E s := by
  refine wpAny_ListComp_free (fun _ => true) (fun v y => ∀ i t, v = Value.int i t → ∃ t', y = Value.int (if i = c.fmod 6 then cs.getD i.toNat 0 + 1 else cs.getD i.toNat 0) t') hclos hcell hkind hnames hx (hiter _ fun h' tk r tu tv tw F' N' hr => ?_) hs
  refine comp_range (s := { s with heap := h', toks := tk }) (N := 5) (f := fun i => if i = c.fmod 6 then cs.getD i.toNat 0 + 1 else cs.getD i.toNat 0) hh F' N' hr (by decide) (by decide) (by decide) ?_ (fun D h'' tk' ys k F'' N'' hi' hf => hQ D h'' tk' ys k F'' N'' hi' hf)
  exact fun s₃ C i t m₃ E' hn hm h0 hN keep => counts_elt (hk C) (hj C) (h1 C) (h2 C) l1 l2 (N' _ hC).1 dC (N' _ hK).1 dK (N' _ hD).1 hi h5 hn hm h0 hN keep
end
end Mine
namespace Mine
theorem ints_uncons {vs : List Value} {z : Int} {zs : List Int} (h : IntsAre vs (z :: zs)) : ∃ t vs', vs = .int z t :: vs' ∧ IntsAre vs' zs := by
  cases h with
  | cons n t r => exact ⟨t, _, rfl, r⟩
theorem ints_nil {vs : List Value} (h : IntsAre vs []) : vs = [] := by
  cases h
  rfl
theorem ints_list5 {a : Array Value} {z0 z1 z2 z3 z4 : Int} (h : IntsAre a.toList [z0, z1, z2, z3, z4]) : ∃ t0 t1 t2 t3 t4 : Tok, a = #[.int z0 t0, .int z1 t1, .int z2 t2, .int z3 t3, .int z4 t4] := by
  obtain ⟨t0, r0, e0, h0⟩ := ints_uncons h
  obtain ⟨t1, r1, e1, h1⟩ := ints_uncons h0
  obtain ⟨t2, r2, e2, h2⟩ := ints_uncons h1
  obtain ⟨t3, r3, e3, h3⟩ := ints_uncons h2
  obtain ⟨t4, r4, e4, h4⟩ := ints_uncons h3
  have en := ints_nil h4
  refine ⟨t0, t1, t2, t3, t4, ?_⟩
  rw [← Array.toList_inj, e0, e1, e2, e3, e4, en]
theorem ints_list10 {a : Array Value} {z0 z1 z2 z3 z4 z5 z6 z7 z8 z9 : Int} (h : IntsAre a.toList [z0, z1, z2, z3, z4, z5, z6, z7, z8, z9]) : ∃ t0 t1 t2 t3 t4 t5 t6 t7 t8 t9 : Tok, a = #[.int z0 t0, .int z1 t1, .int z2 t2, .int z3 t3, .int z4 t4, .int z5 t5, .int z6 t6, .int z7 t7, .int z8 t8, .int z9 t9] := by
  obtain ⟨t0, r0, e0, h0⟩ := ints_uncons h
  obtain ⟨t1, r1, e1, h1⟩ := ints_uncons h0
  obtain ⟨t2, r2, e2, h2⟩ := ints_uncons h1
  obtain ⟨t3, r3, e3, h3⟩ := ints_uncons h2
  obtain ⟨t4, r4, e4, h4⟩ := ints_uncons h3
  obtain ⟨t5, r5, e5, h5⟩ := ints_uncons h4
  obtain ⟨t6, r6, e6, h6⟩ := ints_uncons h5
  obtain ⟨t7, r7, e7, h7⟩ := ints_uncons h6
  obtain ⟨t8, r8, e8, h8⟩ := ints_uncons h7
  obtain ⟨t9, r9, e9, h9⟩ := ints_uncons h8
  have en := ints_nil h9
  refine ⟨t0, t1, t2, t3, t4, t5, t6, t7, t8, t9, ?_⟩
  rw [← Array.toList_inj, e0, e1, e2, e3, e4, e5, e6, e7, e8, e9, en]
theorem ints_list11 {a : Array Value} {z0 z1 z2 z3 z4 z5 z6 z7 z8 z9 z10 : Int} (h : IntsAre a.toList [z0, z1, z2, z3, z4, z5, z6, z7, z8, z9, z10]) : ∃ t0 t1 t2 t3 t4 t5 t6 t7 t8 t9 t10 : Tok, a = #[.int z0 t0, .int z1 t1, .int z2 t2, .int z3 t3, .int z4 t4, .int z5 t5, .int z6 t6, .int z7 t7, .int z8 t8, .int z9 t9, .int z10 t10] := by
  obtain ⟨t0, r0, e0, h0⟩ := ints_uncons h
  obtain ⟨t1, r1, e1, h1⟩ := ints_uncons h0
  obtain ⟨t2, r2, e2, h2⟩ := ints_uncons h1
  obtain ⟨t3, r3, e3, h3⟩ := ints_uncons h2
  obtain ⟨t4, r4, e4, h4⟩ := ints_uncons h3
  obtain ⟨t5, r5, e5, h5⟩ := ints_uncons h4
  obtain ⟨t6, r6, e6, h6⟩ := ints_uncons h5
  obtain ⟨t7, r7, e7, h7⟩ := ints_uncons h6
  obtain ⟨t8, r8, e8, h8⟩ := ints_uncons h7
  obtain ⟨t9, r9, e9, h9⟩ := ints_uncons h8
  obtain ⟨t10, r10, e10, h10⟩ := ints_uncons h9
  have en := ints_nil h10
  refine ⟨t0, t1, t2, t3, t4, t5, t6, t7, t8, t9, t10, ?_⟩
  rw [← Array.toList_inj, e0, e1, e2, e3, e4, e5, e6, e7, e8, e9, e10, en]
section
variable {prog : Program} {w : World} {A : Around} {E : Value → Shared → Prop} {s : Shared} {h₀ : Heap} {L a b : Addr} {news : List (Addr × Obj)} {v1 v2 : Array Value} {k1 k2 : Nat} {ns ms : List Int} {Q : Value → Shared → Prop}
theorem sum_own {m : Str → Option Value} (F : Fr h₀ L s.heap m) (N : News h₀ L s.heap news) (hh : A.handled = none) (h1 : (a, listOf v1 k1) ∈ news) (i1 : IntsAre v1.toList ns)
    (h : ∀ h' tk t', Fr h₀ L h' m → News h₀ L h' news → Q (.int ns.sum t') { s with heap := h', toks := tk }) : wpAny (model prog w) A (call (.builtin "sum") [.ref a]) Q E s :=
  LSm.sum_ints (vs := v1.toList) F N hh ⟨_, (N _ h1).1, rfl, k1, rfl⟩ i1 h
theorem ne_own (N : News h₀ L s.heap news) (h1 : (a, listOf v1 k1) ∈ news) (h2 : (b, listOf v2 k2) ∈ news) (i1 : IntsAre v1.toList ns) (i2 : IntsAre v2.toList ms) (hu : A.units + 64 < cLine) (he : ns = ms) (h : Q (.bool false) s) : wpAny (model prog w) A (compareOp .NotEq (.ref a) (.ref b)) Q E s := by
  refine ne_intsK (vs := v1.toList) (us := v2.toList) ⟨_, (N _ h1).1, rfl, k1, rfl⟩ i1 ⟨_, (N _ h2).1, rfl, k2, rfl⟩ i2 hu ?_
  rw [he, decide_eq_true rfl]
  exact h
theorem eq_own (N : News h₀ L s.heap news) (h1 : (a, listOf v1 k1) ∈ news) (h2 : (b, listOf v2 k2) ∈ news) (i1 : IntsAre v1.toList ns) (i2 : IntsAre v2.toList ms) (hu : A.units + 64 < cLine) (he : ns = ms) (h : Q (.bool true) s) : wpAny (model prog w) A (compareOp .Eq (.ref a) (.ref b)) Q E s := by
  refine eq_intsK (vs := v1.toList) (us := v2.toList) ⟨_, (N _ h1).1, rfl, k1, rfl⟩ i1 ⟨_, (N _ h2).1, rfl, k2, rfl⟩ i2 hu ?_
  rw [he, decide_eq_true rfl]
  exact h
end
section
variable {prog : Program} {w : World} {A : Around} {E : Value → Shared → Prop} {s : Shared} {h₀ : Heap} {m : Str → Option Value} {news : List (Addr × Obj)} {env : Env}
theorem assign_quad {x₁ x₂ x₃ x₄ : Str} {p₁ p₂ p₃ p₄ p : Pos} {k : Nat} {t : Addr} {a b c d : Value} {n : Nat} {Q : Unit → Shared → Prop} (hh : A.handled = none) (F : Fr h₀ env.locals s.heap m) (N : News h₀ env.locals s.heap news)
    (ht : (t, ({ cls := .type "tuple", data := .seq #[a, b, c, d] n } : Obj)) ∈ news) (h1 : env.kindOf x₁ = some .local) (h2 : env.kindOf x₂ = some .local) (h3 : env.kindOf x₃ = some .local) (h4 : env.kindOf x₄ = some .local) (hp : (env.scope.kind == .class || (env.scope.kind == .module && env.locals != env.globals)) = false)
    (h : ∀ h' tk, Fr h₀ env.locals h' (fun y => if y = x₄ then some d else if y = x₃ then some c else if y = x₂ then some b else if y = x₁ then some a else m y) → News h₀ env.locals h' news → Q () { s with heap := h', toks := tk }) :
    wpAny (model prog w) A (assign (.Tuple [.Name x₁ p₁, .Name x₂ p₂, .Name x₃ p₃, .Name x₄ p₄] k p) env (.ref t)) Q E s := by
  refine unpackN_ F N (items := #[a, b, c, d]) (N.isTup ht) hh rfl rfl fun h' F' N' => ?_
  show wpAny _ _ (assignInOrder [assign (.Name x₁ p₁) env, assign (.Name x₂ p₂) env, assign (.Name x₃ p₃) env, assign (.Name x₄ p₄) env] [a, b, c, d]) _ _ _
  refine assignInOrder_cons (wpAny_assign_Name (wpAny_storeName_local h1 F'.ns (fun h₂ hn₂ hs₂ => ?_) hp))
  refine assignInOrder_cons (wpAny_assign_Name (wpAny_storeName_local h2 hn₂ (fun h₃ hn₃ hs₃ => ?_) hp))
  refine assignInOrder_cons (wpAny_assign_Name (wpAny_storeName_local h3 hn₃ (fun h₄ hn₄ hs₄ => ?_) hp))
  refine assignInOrder_cons (wpAny_assign_Name (wpAny_storeName_local h4 hn₄ (fun h₅ hn₅ hs₅ => assignInOrder_nil ?_) hp))
  exact h h₅ _ ((((F'.set hn₂ hs₂).set hn₃ hs₃).set hn₄ hs₄).set hn₅ hs₅) ((((N'.set hs₂).set hs₃).set hs₄).set hs₅)
end
end Mine
namespace Mine
theorem ints_get {vs : List Value} {ns : List Int} (h : IntsAre vs ns) : ∀ (i : Nat) v, vs[i]? = some v → ∃ z t, v = .int z t := by
  induction h with
  | nil => intro i v e; simp at e
  | cons n t _ ih =>
    intro i v e
    cases i with
    | zero => cases e; exact ⟨n, t, rfl⟩
    | succ j => exact ih j v e
theorem ints_of {Fm : Value → Prop} : ∀ {vs ys : List Value}, (∀ y, Fm y → ∃ z t, y = .int z t) → Paired (fun _ y => Fm y) vs ys → ∃ zs, IntsAre ys zs ∧ zs.length = vs.length
  | [], _, _, hp => by cases hp; exact ⟨[], .nil, rfl⟩
  | v :: vs, _, hF, hp => by
    cases hp with
    | @cons _ y _ ys a r =>
      obtain ⟨zs, h1, h2⟩ := ints_of hF r
      obtain ⟨z, t, rfl⟩ := hF _ a
      exact ⟨z :: zs, .cons z t h1, by rw [List.length_cons, List.length_cons, h2]⟩
section
variable {prog : Program} {w : World} {A : Around} {E : Value → Shared → Prop} {s : Shared} {env : Env}
theorem slice_keep {value slice : Expr} {l sl : Addr} {items : Array Value} {vl vu vk : Value} {lo hi st : Option Int} {ops : List Value} {Q : Value → Shared → Prop} (hl : s.heap.IsList l items) (hsl : s.heap.IsSliceOf sl vl vu vk) (pl : IsPart vl lo) (pu : IsPart vu hi) (pk : IsPart vk st) (h0 : st ≠ some 0) (hsz : items.size ≤ sizeLine)
    (h : ∀ D h', (∀ b o, s.heap.get? b = some o → h'.get? b = some o) → h'.get? D = some { cls := .type "list", data := .seq (slicePick items lo hi st) } → Q (.ref D) { s with heap := h' })
    (hs : subscripted slice false (.ref l) (.ref sl) = operate ops (getItem (.ref l) (.ref sl)) := by with_unfolding_all rfl)
    (ht : ∀ r, letTemporaryGo value (.ref l) r = pure () := by intro _; with_unfolding_all rfl) :
    wpAny (model prog w) A (subscriptTail value slice (.ref l) (.ref sl)) Q E s :=
  subscriptTail_ops hl.typeIs list_getitem_lookup (wpAny_getItem_list_slice hl hsl pl pu pk h0 (h _ _ (fun _ _ e => Heap.get?_push_of_some _ e) (Heap.get?_push_size _ rfl)) hsz) hs ht
theorem sum_keep {l : Addr} {vs : List Value} {ns : List Int} {Q : Value → Shared → Prop} (hh : A.handled = none) (hl : s.heap.IsList l vs.toArray) (hi : IntsAre vs ns)
    (h : ∀ h' tk z t', (∀ b o, s.heap.get? b = some o → h'.get? b = some o) → Q (.int z t') { s with heap := h', toks := tk }) : wpAny (model prog w) A (call (.builtin "sum") [.ref l]) Q E s := by
  obtain ⟨xs, hx⟩ := hi.allInts.items
  exact sum_intListG hh (hx ▸ hl) fun h' tk t' hk => h h' tk _ t' hk
/-- a comprehension over a list of whole numbers: remainders -/
theorem rests {its : Array Value} {n : Nat} {ns : List Int} {scope : Scope} {x : Str} {p1 p2 p3 px pos : Pos} {md : Int} {iter : Expr} {Q : Value → Shared → Prop}
    (hh : A.handled = none) (hmd : md ≠ 0) (hk : scope.kind = .function) (hfree : ∀ y ∈ scope.names, y.2 ≠ .free) (hcell : ∀ y ∈ scope.names, y.2 ≠ .cell) (hnames : ∀ y ∈ scope.names, y.2 = .local → scope.names.lookup y.1 = some .local) (hx : scope.names.lookup x = some .local)
    (hk2 : ∀ C, (compEnvC scope [] C env).scope.kind = .function) (hx2 : ∀ C, (compEnvC scope [] C env).kindOf x = some .local) (hdbg : (x == ("__debug__" : Str)) = false)
    (hi : IntsAre its.toList ns) (hsz : its.size ≤ sizeLine)
    (hiter : ∀ Q' : Value → Shared → Prop, (∀ h' tk l, (∀ b o, s.heap.get? b = some o → h'.get? b = some o) → h'.get? l = some (listOf its n) → Q' (.ref l) { s with heap := h', toks := tk }) → wpAny (model prog w) A (eval iter env) Q' E s)
    (hs : ∀ v, foldedSetIterable iter env v = pure v)
    (hQ : ∀ D h' tk ys zs, (∀ b o, s.heap.get? b = some o → h'.get? b = some o) → h'.IsList D ys → IntsAre ys.toList zs → Q (.ref D) { s with heap := h', toks := tk }) :
    wpAny (model prog w) A (eval (.ListComp (.BinOp (.Name x p1) .Mod (.Constant (.int md) 0 p2) p3) [⟨.Name x px, iter, [], 0⟩] scope pos) env) Q E s := by
  refine wpAny_ListComp_free (fun _ => true) (fun _ y => ∃ z t, y = .int z t) (closureFor_none hfree) hcell hk hnames hx (hiter _ fun h' tk l hk1 hl => ?_) hs
  have hL : h'.IsList l its := ⟨_, hl, rfl, n, rfl⟩
  have hlt := Heap.lt_size hl
  refine wpAny_pyIter_list hL ?_
  have up : ∀ b o, h'.get? b = some o → (h'.push { cls := .type "list_iterator", data := .fields #[.ref l, .int 0 0] }).get? b = some o := fun b o e => Heap.get?_push_of_some _ e
  refine ⟨_, _, _, _, _, _, rfl, Walks.list hh h'.objs.size l (Nat.ne_of_lt hlt) its, hsz, ⟨⟨_, Heap.get?_push_size _ rfl, rfl, rfl⟩, hL.push _⟩, ?_, ⟨fun C i v s₃ m₃ E' hC hP hn₃ hm₃ hk₃ _ => ?_, fun C i v s₃ m₃ E' hC hP _ hn₃ hm₃ hk₃ _ => ?_⟩, ?_⟩
  · intro b hb
    show b < (h'.push _).objs.size
    rw [Heap.size_push]
    rcases List.mem_cons.mp hb with rfl | hb
    · exact Nat.lt_succ_self _
    · rw [List.mem_singleton.mp hb]; exact Nat.lt_succ_of_lt hlt
  · exact wpAny_pure ⟨rfl, ⟨_, _, rfl, fun _ _ e => e⟩⟩
  · obtain ⟨z, t, rfl⟩ := ints_get hi i v (by rw [Array.getElem?_toList]; exact hP)
    refine wpAny_BinOp ?_
    refine wpAny_Name (wpAny_loadName_local (hk2 C) (hx2 C) hn₃ hm₃ ?_) hdbg
    refine wpAny_Constant_int ?_
    refine mod_int hmd ?_
    exact ⟨⟨_, _, rfl⟩, ⟨_, _, rfl, fun _ _ e => e⟩⟩
  · intro D h'' tk' ys vs hD hlD hpl hlen hP hF hk3
    obtain ⟨zs, h1, _⟩ := ints_of (fun y hy => hy) hF
    exact hQ D h'' tk' ys zs (fun b o e => hk3 b o (fun hm => by
      rw [List.mem_singleton.mp hm] at e
      exact absurd (Heap.lt_size (hk1 _ _ e)) (Nat.lt_irrefl _)) (up b o (hk1 b o e))) hlD h1
/-- own[k] + sum([n % md for n in numbers[k::st]]) -/
theorem cell_elt {scope scope2 : Scope} {cl : List (Str × Addr)} {p1 p2 p3 p4 p5 p6 p7 p8 p9 q1 q2 q3 q4 q5 q6 q7 : Pos} {co cn O Nn : Addr} {oO oN : Obj} {a b : Array Value} {ns ms : List Int} {H : Heap} {s₃ : Shared} {C : Addr} {i : Int} {t : Tok} {md st : Int} {mg mb : Str → Option Value} {m₃ : Str → Option Value} {E' : Value → Shared → Prop}
    (hh : A.handled = none) (hmd : md ≠ 0) (hst : st ≠ 0)
    (hk : (compEnvC scope cl C env).scope.kind = .function) (hj : (compEnvC scope cl C env).kindOf (Str.ofString "k") = some .local) (h1 : (compEnvC scope cl C env).kindOf (Str.ofString "own") = some .cell) (h2 : (compEnvC scope cl C env).kindOf (Str.ofString "numbers") = some .cell) (h3 : (compEnvC scope cl C env).kindOf (Str.ofString "sum") = some .globalImplicit)
    (l1 : cl.lookup (Str.ofString "own") = some co) (l2 : cl.lookup (Str.ofString "numbers") = some cn)
    (hO : H.get? co = some oO) (dO : oO.data = .cell (some (.ref O))) (hN : H.get? cn = some oN) (dN : oN.data = .cell (some (.ref Nn))) (hLO : H.IsList O a) (hLN : H.IsList Nn b) (hi : IntsAre a.toList ns) (hm : IntsAre b.toList ms) (hbz : b.size ≤ sizeLine)
    (gg : H.Ns (compEnvC scope cl C env).globals mg) (gm : mg (Str.ofString "sum") = none) (gb : H.Ns (compEnvC scope cl C env).builtins mb) (gs : mb (Str.ofString "sum") = some (.builtin "sum"))
    (hk2 : scope2.kind = .function) (hfree : ∀ y ∈ scope2.names, y.2 ≠ .free) (hcell : ∀ y ∈ scope2.names, y.2 ≠ .cell) (hnames : ∀ y ∈ scope2.names, y.2 = .local → scope2.names.lookup y.1 = some .local) (hx : scope2.names.lookup (Str.ofString "n") = some .local)
    (hk3 : ∀ C', (compEnvC scope2 [] C' (compEnvC scope cl C env)).scope.kind = .function) (hx2 : ∀ C', (compEnvC scope2 [] C' (compEnvC scope cl C env)).kindOf (Str.ofString "n") = some .local)
    (hn : s₃.heap.Ns C m₃) (hmk : m₃ (Str.ofString "k") = some (.int i t)) (h0 : 0 ≤ i) (hN2 : i < ns.length) (hfit : ns.length < 1000) (keep : ∀ b o, H.get? b = some o → s₃.heap.get? b = some o) :
    wpAny (model prog w) A (eval (.BinOp (.Subscript (.Name (Str.ofString "own") p1) (.Name (Str.ofString "k") p2) p3) .Add (.Call (.Name (Str.ofString "sum") p4) [.ListComp (.BinOp (.Name (Str.ofString "n") p5) .Mod (.Constant (.int md) 0 p6) p7) [⟨.Name (Str.ofString "n") p8, .Subscript (.Name (Str.ofString "numbers") p9) (.Slice (some (.Name (Str.ofString "k") q1)) none (some (.Constant (.int st) 0 q2)) q3) q4, [], 0⟩] scope2 q5] [] q6) q7) (compEnvC scope cl C env))
      (fun y s₄ => (∃ z t', y = .int z t') ∧ Keeps s₃ s₄) E' s₃ := by
  obtain ⟨z, hz⟩ : ∃ z, ns[i.toNat]? = some z := ⟨_, List.getElem?_eq_getElem (by omega)⟩
  obtain ⟨tz, ez⟩ := ints_at hi hz
  have eO := keep _ _ hO
  have eN := keep _ _ hN
  have kL : ∀ {X : Addr} {c : Array Value}, H.IsList X c → s₃.heap.IsList X c := fun ⟨o, e, r⟩ => ⟨o, keep _ _ e, r⟩
  have hLO' : s₃.heap.IsList O a.toList.toArray := kL hLO
  refine wpAny_BinOp ?_
  refine Subscript_ ?_
  refine wpAny_Name (wpAny_loadName_cell hk h1 l1 ⟨oO, eO, dO⟩ ?_)
  refine wpAny_Name (wpAny_loadName_local hk hj hn hmk ?_)
  refine item_listL hLO' h0 (by omega) ez ?_
  refine Call_ ?_
  refine Calls.Name_function_global hk h3 (Calls.loadGlobal_builtin (gg.keeps keep) gm (gb.keeps keep) gs ?_)
  refine PyProof.Rows.callWith_builtin1 ?_
  refine spliced_more ?_
  refine rests (its := slicePick b (some i) none (some st)) (n := 0) (ns := pickNums ms (some i) none (some st)) hh hmd hk2 hfree hcell hnames hx hk3 hx2 (by decide) (by have := hm.pick (some i) none (some st); simpa using this) (Nat.le_trans (slicePick_size_le b _ _ _) hbz) ?_ ?_ ?_
  · intro Q' hQ'
    refine Subscript_ ?_
    refine wpAny_Name (wpAny_loadName_cell hk h2 l2 ⟨oN, eN, dN⟩ ?_)
    refine wpAny_Slice ?_
    refine evalPart_some_step ?_
    refine wpAny_Name (wpAny_loadName_local hk hj hn hmk ?_)
    refine evalPart_none_step ?_
    refine evalPart_some_step ?_
    refine wpAny_Constant_int ?_
    refine slice_keep (lo := some i) (hi := none) (st := some st) ((kL hLN).push _) (Heap.IsSliceOf.new ..) (.int ..) .none (.int ..) (by simpa using hst) hbz fun D h' kp hD => ?_
    exact hQ' h' _ D (fun b o e => kp b o (Heap.get?_push_of_some _ e)) hD
  · intro _; with_unfolding_all rfl
  · intro D h' tk ys zs kp hD hI
    refine spliced_none ?_
    refine sum_keep (vs := ys.toList) hh hD hI fun h'' tk' z' t' kp2 => ?_
    refine PyProof.Rows.add_int ?_
    exact ⟨⟨_, _, rfl⟩, ⟨_, _, rfl, fun b o e => kp2 b o (kp b o e)⟩⟩
end
end Mine
namespace Mine
theorem list11 {zs : List Int} (h : zs.length = 11) : ∃ z0 z1 z2 z3 z4 z5 z6 z7 z8 z9 z10, zs = [z0, z1, z2, z3, z4, z5, z6, z7, z8, z9, z10] := by
  match zs, h with
  | [a, b, c, d, e, f, g, h, i, j, k], _ => exact ⟨a, b, c, d, e, f, g, h, i, j, k, rfl⟩
theorem kept_cell {h₀ h : Heap} {L c : Addr} {o : Obj} {v : Option Value} {n n' : List (Addr × Obj)} {q : Addr × Obj} (N : News h₀ L h n) (K : Kept c n n') (hc : (c, o) ∈ n) (hd : o.data = .cell v) (hm : q ∈ n) (hn : ∀ v, q.2.data ≠ .cell v) : q ∈ n' := K q hm (cell_ne N (o := q.2) hm hc hd hn)
theorem list_ne {h₀ h : Heap} {L a b : Addr} {x y : Array Value} {i j : Nat} {n : List (Addr × Obj)} (N : News h₀ L h n) (h1 : (a, listOf x i) ∈ n) (h2 : (b, listOf y j) ∈ n) (hs : x.size ≠ y.size) : a ≠ b := by
  rintro rfl
  have e := (N _ h1).1
  rw [(N _ h2).1] at e
  have e2 := congrArg Obj.data (Option.some.inj e)
  injection e2 with e3 e4
  exact hs (by rw [e3])
section
variable {prog : Program} {w : World} {A : Around} {E : Value → Shared → Prop} {s : Shared} {h₀ : Heap} {m : Str → Option Value} {news : List (Addr × Obj)} {env : Env}
/-- cells = [own[k] + sum([n % md for n in numbers[k::st]]) for k in range(N)] -/
theorem Assign_cells {scope scope2 : Scope} {cl : List (Str × Addr)} {p1 p2 p3 p4 p5 p6 p7 p8 p9 q1 q2 q3 q4 q5 q6 q7 px py pos spos : Pos} {iter : Expr} {y : Str} {co cn O Nn : Addr} {oO oN : Obj} {a b : Array Value} {ka kb : Nat} {ns ms : List Int} {md st : Int} {mg mb : Str → Option Value} {N : Nat} {Q : Flow → Shared → Prop}
    {L : Addr} (hL : env.locals = L) (hh : A.handled = none) (_F : Fr h₀ L s.heap m) (_N : News h₀ L s.heap news) (hmd : md ≠ 0) (hst : st ≠ 0)
    (hO : (co, oO) ∈ news) (dO : oO.data = .cell (some (.ref O))) (hN : (cn, oN) ∈ news) (dN : oN.data = .cell (some (.ref Nn))) (hLO : (O, listOf a ka) ∈ news) (hLN : (Nn, listOf b kb) ∈ news) (hi : IntsAre a.toList ns) (hm : IntsAre b.toList ms) (hbz : b.size ≤ sizeLine) (hnl : ns.length = N) (hfit : N < 1000)
    (gg : h₀.Ns env.globals mg) (gm : mg (Str.ofString "sum") = none) (gb : h₀.Ns env.builtins mb) (gs : mb (Str.ofString "sum") = some (.builtin "sum"))
    (hsw : swapsWith (.ListComp (.BinOp (.Subscript (.Name (Str.ofString "own") p1) (.Name (Str.ofString "k") p2) p3) .Add (.Call (.Name (Str.ofString "sum") p4) [.ListComp (.BinOp (.Name (Str.ofString "n") p5) .Mod (.Constant (.int md) 0 p6) p7) [⟨.Name (Str.ofString "n") p8, .Subscript (.Name (Str.ofString "numbers") p9) (.Slice (some (.Name (Str.ofString "k") q1)) none (some (.Constant (.int st) 0 q2)) q3) q4, [], 0⟩] scope2 q5] [] q6) q7)
      [⟨.Name (Str.ofString "k") px, iter, [], 0⟩] scope pos) (some (.Name y py)) spos.line env = pure true)
    (hclos : closureFor scope env = pure cl) (hcell : ∀ z ∈ scope.names, z.2 ≠ .cell) (hkind : scope.kind = .function)
    (hnames : ∀ z ∈ scope.names, z.2 = .local → scope.names.lookup z.1 = some .local) (hx : scope.names.lookup (Str.ofString "k") = some .local)
    (hy : env.kindOf y = some .local) (hp : (env.scope.kind == .class || (env.scope.kind == .module && env.locals != env.globals)) = false)
    (hk : ∀ C, (compEnvC scope cl C env).scope.kind = .function) (hj : ∀ C, (compEnvC scope cl C env).kindOf (Str.ofString "k") = some .local) (h1 : ∀ C, (compEnvC scope cl C env).kindOf (Str.ofString "own") = some .cell) (h2 : ∀ C, (compEnvC scope cl C env).kindOf (Str.ofString "numbers") = some .cell) (h3 : ∀ C, (compEnvC scope cl C env).kindOf (Str.ofString "sum") = some .globalImplicit)
    (l1 : cl.lookup (Str.ofString "own") = some co) (l2 : cl.lookup (Str.ofString "numbers") = some cn)
    (hk2 : scope2.kind = .function) (hfree : ∀ y ∈ scope2.names, y.2 ≠ .free) (hcell2 : ∀ y ∈ scope2.names, y.2 ≠ .cell) (hnames2 : ∀ y ∈ scope2.names, y.2 = .local → scope2.names.lookup y.1 = some .local) (hx2 : scope2.names.lookup (Str.ofString "n") = some .local)
    (hk3 : ∀ C C', (compEnvC scope2 [] C' (compEnvC scope cl C env)).scope.kind = .function) (hx3 : ∀ C C', (compEnvC scope2 [] C' (compEnvC scope cl C env)).kindOf (Str.ofString "n") = some .local)
    (hs : ∀ x, foldedSetIterable iter env x = pure x)
    (hiter : ∀ Q' : Value → Shared → Prop, (∀ h' tk r tu tv tw, Fr h₀ L h' m → News h₀ L h' news → IsRange h' r 0 (N : Nat) 1 tu tv tw → Q' (.ref r) { s with heap := h', toks := tk }) → wpAny (model prog w) A (eval iter env) Q' E s)
    (hQ : ∀ D h' tk ys k zs, Fr h₀ L h' (fun z => if z = y then some (.ref D) else m z) → News h₀ L h' ((D, listOf ys k) :: news) → IntsAre ys.toList zs → zs.length = N → (∀ q ∈ news, q.1 ≠ D) → Q .next { s with heap := h', toks := tk }) :
    wpAny (model prog w) A (exec (.Assign [.Name y py] (.ListComp (.BinOp (.Subscript (.Name (Str.ofString "own") p1) (.Name (Str.ofString "k") p2) p3) .Add (.Call (.Name (Str.ofString "sum") p4) [.ListComp (.BinOp (.Name (Str.ofString "n") p5) .Mod (.Constant (.int md) 0 p6) p7) [⟨.Name (Str.ofString "n") p8, .Subscript (.Name (Str.ofString "numbers") p9) (.Slice (some (.Name (Str.ofString "k") q1)) none (some (.Constant (.int st) 0 q2)) q3) q4, [], 0⟩] scope2 q5] [] q6) q7)
      [⟨.Name (Str.ofString "k") px, iter, [], 0⟩] scope pos) spos) env) Q E s := by
  subst hL
  refine wpAny_Assign_ListComp_free (fun _ => true) (fun _ y => ∃ z t, y = .int z t) hsw hclos hcell hkind hnames hx hy hp (hiter _ fun h' tk r tu tv tw F' N' hr => ?_) hs
  have hsm : Builtin.Range.small 0 (N : Nat) 1 = true := small_one (by omega) (by omega) (by omega) (by omega)
  have hn : Builtin.Range.rangeSize 0 (N : Nat) 1 = ((N : Nat) : Int) := rangeSize_nat _ _
  refine wpAny_pyIter_range hr hsm ?_
  rw [hn]
  dsimp only
  have up : ∀ b' o, h'.get? b' = some o → (h'.push { cls := .type "range_iterator", data := .fields #[rawInt 0, rawInt ((N : Nat) : Int), rawInt 1] }).get? b' = some o := fun b o e => Heap.get?_push_of_some _ e
  have hlt : ∀ b o, h'.get? b = some o → b ∉ [h'.objs.size] := fun b o e hm => by
    rw [List.mem_singleton.mp hm] at e
    exact absurd (Heap.lt_size e) (Nat.lt_irrefl _)
  have hLI : env.locals ∉ [h'.objs.size] := fun hm => by
    have := F'.ns.lt
    rw [List.mem_singleton.mp hm] at this
    exact Nat.lt_irrefl _ this
  refine ⟨_, _, _, _, _, _, m, rfl, walks_bound (Walks.range hh h'.objs.size 0 1 N), Nat.le_trans (Nat.le_of_lt hfit) (by decide), ?_, ?_, hLI, (F'.push _).ns, ⟨fun C i v s₃ m₃ E' hC hP hn₃ hm₃ hk₃ _ => ?_, fun C i v s₃ m₃ E' hC hP _ hn₃ hm₃ hk₃ _ => ?_⟩, ?_⟩
  · have e1 : (0 : Int) + ((0 : Nat) : Int) * 1 = 0 := by decide
    have e2 : (N : Int) - ((0 : Nat) : Int) = N := Int.sub_zero _
    show IsRangeIter _ _ ((0 : Int) + ((0 : Nat) : Int) * 1) ((N : Int) - ((0 : Nat) : Int)) 1
    rw [e1, e2]
    exact Heap.get?_push_size _ rfl
  · intro b hb
    rw [List.mem_singleton.mp hb]
    show _ < (h'.push _).objs.size
    rw [Heap.size_push]; exact Nat.lt_succ_self _
  · exact wpAny_pure ⟨rfl, ⟨_, _, rfl, fun _ _ e => e⟩⟩
  · obtain ⟨hi2, t, rfl⟩ := hP
    have keep : ∀ b o, h'.get? b = some o → s₃.heap.get? b = some o := fun b o e => hk₃ b o (hlt b o e) (up b o e)
    exact cell_elt hh hmd hst (hk C) (hj C) (h1 C) (h2 C) (h3 C) l1 l2 (N' _ hO).1 dO (N' _ hN).1 dN ⟨_, (N' _ hLO).1, rfl, ka, rfl⟩ ⟨_, (N' _ hLN).1, rfl, kb, rfl⟩ hi hm hbz (gg.keeps F'.keep) gm (gb.keeps F'.keep) gs hk2 hfree hcell2 hnames2 hx2 (hk3 C) (hx3 C) hn₃ hm₃ (by omega) (by omega) (by omega) keep
  · intro D h'' tk' ys vs hD hlD hpl hlen hP hF hns hk3
    rw [List.filter_eq_self.mpr (fun _ _ => rfl)] at hF
    obtain ⟨zs, g1, g2⟩ := ints_of (fun y hy => hy) hF
    have hD' : h'.get? D = none := by
      cases e : h'.get? D with
      | none => rfl
      | some o => rw [up D o e] at hD; cases hD
    have keep : ∀ b o, b ≠ env.locals → h'.get? b = some o → h''.get? b = some o := fun b o hb e => hk3 b o hb (hlt b o e) (up b o e)
    have hL0 : ∀ b o, h₀.get? b = some o → b ≠ env.locals := fun b o e eq => by
      have := Heap.lt_size e
      rw [eq] at this
      exact absurd (Nat.lt_of_lt_of_le this F'.above) (Nat.lt_irrefl _)
    obtain ⟨k, hpl⟩ := hpl
    refine hQ D h'' tk' ys k zs ⟨hns, fun b o e => keep b o (hL0 b o e) (F'.keep b o e), F'.above⟩ (fun q hq => ?_) g1 (g2.trans hlen) (fun q hq e => ?_)
    · rcases List.mem_cons.mp hq with rfl | hq
      · refine ⟨hpl, ?_, ?_⟩
        · rintro rfl
          obtain ⟨oL, _, _, e, _⟩ := F'.ns
          rw [hD'] at e; cases e
        · cases e : h₀.get? D with
          | none => rfl
          | some o => rw [F'.keep _ _ e] at hD'; cases hD'
      · exact ⟨keep _ _ (N' q hq).2.1 (N' q hq).1, (N' q hq).2⟩
    · have := (N' q hq).1
      rw [e, hD'] at this; cases this
end
end Mine
namespace Mine
local macro_rules | `(tactic| k_room) => `(tactic| first | ((try simp only [depth_under_make, depth_under_kw, depth_in1, depth_deeper, depth_caller]); omega) | decide)
local macro_rules | `(tactic| k_enter) => `(tactic| (refine' code_def ?k1 ?k2 ?k3 ?k4 ?k5 ?kA ?kF ?kK ?k6 ?k7 ?k8 ?k9 ?kB ?_ ?c2 ?c3 ?c4 ?c5; (case k1 => k_asm); (case k2 => k_asm); (case k3 => k_asm); (case k4 => k_asm); (case k5 => k_asm); (case kA => assumption); (case kF => assumption); (case kK => assumption);  (case k6 => k_is); (case k7 => k_is); (case k8 => k_room); (case k9 => first | exact BindsTo.of_eq rfl | exact binds_K (by k_in) rfl (by k_is) rfl rfl rfl | fail "k_enter: no rule for these arguments"); (case c5 => decide); (case kB => exact locs rfl); (case c2 => exact rfl); (case c3 => exact rfl); (case c4 => exact rfl); k_whole; intro g' L' h' FG' F' N' B' X' T'; (try dsimp only); (try k_lift B'); (try k_fold)))
local macro_rules | `(tactic| k_enter) => `(tactic| (refine' code_defC ?k1 ?k2 ?k3 ?k4 ?k5 ?kA ?kF ?kK ?k6 ?k7 ?k8 ?k9 ?kB ?kD ?_ ?c2 ?c3 ?c4; (case k1 => k_asm); (case k2 => k_asm); (case k3 => k_asm); (case k4 => k_asm); (case k5 => k_asm); (case kA => assumption); (case kF => assumption); (case kK => assumption); (case k6 => k_is); (case k7 => k_is); (case k8 => k_room); (case k9 => first | exact BindsTo.of_eq rfl | exact binds_K (by k_in) rfl (by k_is) rfl rfl rfl | fail "k_enter: no rule for these arguments"); (case kB => exact rfl); (case kD => decide +kernel); (case c2 => exact rfl); (case c3 => exact rfl); (case c4 => exact rfl); k_whole; intro g' L' h' tk' cells' FG' F' N' Y' B' X' T' l1; k_cells Y'; (try simp only [List.cons_append, List.nil_append] at N'); (try dsimp only); (try k_lift B'); (try k_fold)))
local macro_rules | `(tactic| k_mem) => `(tactic| first | assumption | exact List.Mem.head _ | (refine' List.Mem.tail _ ?_; k_mem))
local macro_rules | `(tactic| k_all) => `(tactic| exact all_ne_of_lt (by assumption) (by first | exact Nat.le_refl _ | exact Nat.le_succ _ | omega))
local macro_rules | `(tactic| walk_at "call builtin:str.lower") => `(tactic| (refine PyProof.Rows.SCL.lower (by omega) ?_; intro _))
local macro_rules | `(tactic| walk_at "eval ListComp") => `(tactic| refine hold_intro ?_)
local macro_rules | `(tactic| walk_at "eval Slice none none none") => `(tactic| (refine slice_K (by assumption) (by assumption) ?_; intro sl' h' F' N'; (try k_sweep)))
local macro_rules | `(tactic| walk_at "setItem ref ref ref") => `(tactic| refine hold_intro ?_)
local macro_rules | `(tactic| walk_at "exec Assign cons ListComp") => `(tactic| ((with_reducible show wpAny _ _ (exec (Stmt.Assign [Expr.Subscript _ _ _] _ _) _) _ _ _); refine wpAny_Assign_Subscript ?_))
local macro_rules | `(tactic| walk_at "call builtin:len") => `(tactic| (refine' len_L ?N ?hl ?hs ?_; (case N => k_asm); (case hl => k_mem); (case hs => omega); intro t' tk'))
local macro_rules | `(tactic| walk_at "subscriptTail Name Slice ref ref") => `(tactic| ((with_reducible show wpAny _ _ (subscriptTail _ _ (Value.ref _) (Value.ref _)) _ _ _); refine' copy_L ?F ?N ?hl ?hs ?hz ?_ ?he; (case F => k_asm); (case N => k_asm); (case hl => k_mem); (case hs => exact List.Mem.head _); (case hz => rw [sizeLine_eq]; omega); (case he => with_unfolding_all rfl); intro D' h' F' N' l1'; (try k_sweep)))
local macro_rules | `(tactic| walk_at "enter_more") => `(tactic| (refine' kp_more ?k1 ?k2 ?k3 ?k4 ?k5 ?kA ?kF ?kK ?k6 ?k7 ?k8 ?kX ?kM ?kN ?kD ?kR ?kP ?kT ?kB ?_ ?c2 ?c3 ?c4 ?c5; (case kA => assumption); (case kF => assumption); (case kK => assumption); (case k1 => k_asm); (case k2 => k_asm); (case k3 => k_asm); (case k4 => k_asm); (case k5 => k_asm); (case k6 => k_is); (case k7 => k_is); (case k8 => k_room); (case kX => kp_lit); (case kM => exact rfl); (case kN => exact rfl); (case kD => kp_flats); (case kR => exact rfl); (case kP => exact rfl); (case kT => exact fun _ => rfl); (case kB => exact fun _ => locs rfl); (case c5 => decide); (case c2 => exact rfl); (case c3 => exact rfl); (case c4 => exact rfl); k_whole; intro D' o' g' L' h' tk' l1 lo' hs' fs' FG' F' N' B' X' T'; (try dsimp only); (try k_lift B'); (try k_fold)))
local macro_rules | `(tactic| walk_at "exec For Tuple Name") => `(tactic| refine hold_intro ?_)
local macro_rules | `(tactic| walk_at "exec For Tuple Call") => `(tactic| refine hold_intro ?_)
local macro_rules | `(tactic| walk_at "exec For Tuple Call cons nil") => `(tactic| refine hold_intro ?_)
local macro_rules | `(tactic| walk_at "exec For Tuple Name cons nil") => `(tactic| refine hold_intro ?_)
local macro_rules | `(tactic| walk_at "call builtin:list.append") => `(tactic| (refine' append_L ?F ?N ?hl ?_ ?hz; (case F => k_asm); (case N => k_asm); (case hl => k_mem); (case hz => (rw [sizeLine_eq]; omega)); intro h' F' N'))
abbrev pg : Program := PySem.Challenge.rw_un0065_03.row.prog
theorem patN {w : World} {h : Heap} (X : (hd.heap_39 w.params).In h) : PatAt h 48 codeN := by
  have h1 : h.get? 48 = _ := X 48 _ (by k_is)
  have h2 : h.get? 47 = _ := X 47 _ (by k_is)
  exact ⟨⟨_, _, 47, _, 0, h1, h2, by decide +kernel⟩⟩
theorem patV {w : World} {h : Heap} (X : (hd.heap_39 w.params).In h) : PatAt h 53 codeV := by
  have h1 : h.get? 53 = _ := X 53 _ (by k_is)
  have h2 : h.get? 52 = _ := X 52 _ (by k_is)
  exact ⟨⟨_, _, 52, _, 0, h1, h2, by decide +kernel⟩⟩
/-- where a call stands -/
structure Sit (w : World) (A A₀ : Around) (base h₀ : Heap) (env : Env) (outer : List Env) (L : Addr) (m : Str → Option Value) (p : Program) (loose : List Str) (mean : ExcName → Option Value) (mg mb : Str → Option Value) (news : List (Addr × Obj)) (h : Heap) (d : Nat) : Prop where
  KX : (hd.heap_39 w.params).In h₀
  T : Top p loose mean mg mb h₀
  B : Below A₀ base outer h₀
  F : Fr h₀ L h m
  N : News h₀ L h news
  hA : A.frames = some (env :: outer)
  hf : env.frame = some L
  hke : env.scope.kind = .function
  hroom : A.depth + d < recursionLimit
  hh : A.handled = none
/-- a table of the text's class -/
structure Tab (w : World) (news : List (Addr × Obj)) (x l : Addr) : Prop where
  at_ : ∃ d tl, (x, instObj 182 d) ∈ news ∧ (d, dictOf [⟨PyData.keyHash w.params (Str.ofString "_headers"), .str (Str.ofString "_headers") tl, .ref l⟩] 1) ∈ news
theorem Tab.mono {w : World} {news news' : List (Addr × Obj)} {x l : Addr} (T : Tab w news x l) (k : ∀ p ∈ news, p ∈ news') : Tab w news' x l := by
  obtain ⟨d, tl, a, b⟩ := T.at_
  exact ⟨d, tl, k _ a, k _ b⟩
theorem Tab.upd {w : World} {h₀ h : Heap} {L : Addr} {news : List (Addr × Obj)} {x l l' : Addr} {o o' : Obj} (T : Tab w news x l) (N : News h₀ L h news) (hl : (l', o) ∈ news) (ho : o.cls = .type "list") : Tab w (upd l' o' news) x l := by
  obtain ⟨d, tl, a, b⟩ := T.at_
  refine ⟨d, tl, mem_upd a (news_ne N a hl ?_), mem_upd b (news_ne N b hl ?_)⟩
  · rw [ho]; show Value.ref 182 ≠ Value.type "list"; decide
  · rw [ho]; show Value.type "dict" ≠ Value.type "list"; decide
section
variable {w : World} {A : Around} {E : Value → Shared → Prop} {s : Shared} {h₀ : Heap} {L : Addr} {m : Str → Option Value}
theorem gm_N {pl : Sem Bool} {Q : Value × List Value → Shared → Prop} (F : Fr h₀ L s.heap m) (X : (hd.heap_39 w.params).In h₀) (h : Q (.builtin "re.Pattern.search", [.ref 48]) s) :
    wpAny (model pg w) A (getMethod (.ref 48) (Str.ofString "search") pl) Q E s := getMethod_search (patN (X.keeps F.keep)) h
theorem gm_V {pl : Sem Bool} {Q : Value × List Value → Shared → Prop} (F : Fr h₀ L s.heap m) (X : (hd.heap_39 w.params).In h₀) (h : Q (.builtin "re.Pattern.search", [.ref 53]) s) :
    wpAny (model pg w) A (getMethod (.ref 53) (Str.ofString "search") pl) Q E s := getMethod_search (patV (X.keeps F.keep)) h
theorem se_N {x : Str} {t : Tok} {Q : Value → Shared → Prop} (F : Fr h₀ L s.heap m) (X : (hd.heap_39 w.params).In h₀) (hx : x.length ≤ 2 ^ 24) (hc : ctlIn isCtlN x.cps = false) (h : Q .none s) :
    wpAny (model pg w) A (call (.builtin "re.Pattern.search") [.ref 48, .str x t]) Q E s := search_call (patN (X.keeps F.keep)) hx (outN _) (fun _ => h) (fun e => by rw [hc] at e; cases e)
theorem se_V {x : Str} {t : Tok} {Q : Value → Shared → Prop} (F : Fr h₀ L s.heap m) (X : (hd.heap_39 w.params).In h₀) (hx : x.length ≤ 2 ^ 24) (hc : ctlIn isCtlV x.cps = false) (h : Q .none s) :
    wpAny (model pg w) A (call (.builtin "re.Pattern.search") [.ref 53, .str x t]) Q E s := search_call (patV (X.keeps F.keep)) hx (outV _) (fun _ => h) (fun e => by rw [hc] at e; cases e)
end
local macro_rules | `(tactic| walk_at "getMethod ref") => `(tactic| ((with_reducible show wpAny _ _ (getMethod (Value.ref 48) _ _) _ _ _); refine gm_N (by assumption) (by assumption) ?_))
local macro_rules | `(tactic| walk_at "getMethod ref") => `(tactic| ((with_reducible show wpAny _ _ (getMethod (Value.ref 53) _ _) _ _ _); refine gm_V (by assumption) (by assumption) ?_))
local macro_rules | `(tactic| walk_at "call builtin:re.Pattern.search") => `(tactic| (refine se_N (by assumption) (by assumption) (by assumption) (by assumption) ?_))
local macro_rules | `(tactic| walk_at "call builtin:re.Pattern.search") => `(tactic| (refine se_V (by assumption) (by assumption) (by assumption) (by assumption) ?_))
section
variable {w : World} {A A₀ : Around} {E : Value → Shared → Prop} {s : Shared} {h₀ base : Heap} {env : Env} {outer : List Env} {L x : Addr} {m mg mb : Str → Option Value} {news : List (Addr × Obj)}
   {p : Program} {loose : List Str} {mean : ExcName → Option Value} {Q : Value → Shared → Prop} {nm : Str} {tk : Tok}
theorem conv_name (S : Sit w A A₀ base h₀ env outer L m p loose mean mg mb news s.heap 5)
   (hlen : nm.length ≤ 2 ^ 24) (hclean : ctlIn isCtlN nm.cps = false)
   (h : ∀ h' t', Fr h₀ L h' m → News h₀ L h' news → Q (.str nm tk) {s with heap := h', toks := t'}) :
   wpAny (model pg w) A (call (.ref 83) [.ref x, .str nm tk] [(Str.ofString "name", .bool true)]) Q E s := by
  obtain ⟨KX, T, B, F, N, hA, hf, hke, hroom, hh⟩ := S
  refine wpAny_call ?_
  k_enter
  k_steps
  exact h _ _ (by assumption) (by assumption)
theorem conv_val (S : Sit w A A₀ base h₀ env outer L m p loose mean mg mb news s.heap 5)
   (hlen : nm.length ≤ 2 ^ 24) (hclean : ctlIn isCtlV nm.cps = false)
   (h : ∀ h' t', Fr h₀ L h' m → News h₀ L h' news → Q (.str nm tk) {s with heap := h', toks := t'}) :
   wpAny (model pg w) A (call (.ref 83) [.ref x, .str nm tk] [(Str.ofString "name", .bool false)]) Q E s := by
  obtain ⟨KX, T, B, F, N, hA, hf, hke, hroom, hh⟩ := S
  refine wpAny_call ?_
  k_enter
  k_steps
  exact h _ _ (by assumption) (by assumption)
end
end Mine
namespace Mine
local macro_rules | `(tactic| k_room) => `(tactic| first | ((try simp only [depth_under_make, depth_under_kw, depth_in1, depth_deeper, depth_caller]); omega) | decide)
local macro_rules | `(tactic| k_enter) => `(tactic| (refine' code_def ?k1 ?k2 ?k3 ?k4 ?k5 ?kA ?kF ?kK ?k6 ?k7 ?k8 ?k9 ?kB ?_ ?c2 ?c3 ?c4 ?c5; (case k1 => k_asm); (case k2 => k_asm); (case k3 => k_asm); (case k4 => k_asm); (case k5 => k_asm); (case kA => assumption); (case kF => assumption); (case kK => assumption);  (case k6 => k_is); (case k7 => k_is); (case k8 => k_room); (case k9 => first | exact BindsTo.of_eq rfl | exact binds_K (by k_in) rfl (by k_is) rfl rfl rfl | fail "k_enter: no rule for these arguments"); (case c5 => decide); (case kB => exact locs rfl); (case c2 => exact rfl); (case c3 => exact rfl); (case c4 => exact rfl); k_whole; intro g' L' h' FG' F' N' B' X' T'; (try dsimp only); (try k_lift B'); (try k_fold)))
local macro_rules | `(tactic| k_enter) => `(tactic| (refine' code_defC ?k1 ?k2 ?k3 ?k4 ?k5 ?kA ?kF ?kK ?k6 ?k7 ?k8 ?k9 ?kB ?kD ?_ ?c2 ?c3 ?c4; (case k1 => k_asm); (case k2 => k_asm); (case k3 => k_asm); (case k4 => k_asm); (case k5 => k_asm); (case kA => assumption); (case kF => assumption); (case kK => assumption); (case k6 => k_is); (case k7 => k_is); (case k8 => k_room); (case k9 => first | exact BindsTo.of_eq rfl | exact binds_K (by k_in) rfl (by k_is) rfl rfl rfl | fail "k_enter: no rule for these arguments"); (case kB => exact rfl); (case kD => decide +kernel); (case c2 => exact rfl); (case c3 => exact rfl); (case c4 => exact rfl); k_whole; intro g' L' h' tk' cells' FG' F' N' Y' B' X' T' l1; k_cells Y'; (try simp only [List.cons_append, List.nil_append] at N'); (try dsimp only); (try k_lift B'); (try k_fold)))
local macro_rules | `(tactic| k_mem) => `(tactic| first | assumption | exact List.Mem.head _ | (refine' List.Mem.tail _ ?_; k_mem))
local macro_rules | `(tactic| k_all) => `(tactic| exact all_ne_of_lt (by assumption) (by first | exact Nat.le_refl _ | exact Nat.le_succ _ | omega))
local macro_rules | `(tactic| walk_at "call builtin:str.lower") => `(tactic| (refine PyProof.Rows.SCL.lower (by omega) ?_; intro _))
local macro_rules | `(tactic| walk_at "eval ListComp") => `(tactic| refine hold_intro ?_)
local macro_rules | `(tactic| walk_at "eval Slice none none none") => `(tactic| (refine slice_K (by assumption) (by assumption) ?_; intro sl' h' F' N'; (try k_sweep)))
local macro_rules | `(tactic| walk_at "setItem ref ref ref") => `(tactic| refine hold_intro ?_)
local macro_rules | `(tactic| walk_at "exec Assign cons ListComp") => `(tactic| ((with_reducible show wpAny _ _ (exec (Stmt.Assign [Expr.Subscript _ _ _] _ _) _) _ _ _); refine wpAny_Assign_Subscript ?_))
local macro_rules | `(tactic| walk_at "call builtin:len") => `(tactic| (refine' len_L ?N ?hl ?hs ?_; (case N => k_asm); (case hl => k_mem); (case hs => omega); intro t' tk'))
local macro_rules | `(tactic| walk_at "subscriptTail Name Slice ref ref") => `(tactic| ((with_reducible show wpAny _ _ (subscriptTail _ _ (Value.ref _) (Value.ref _)) _ _ _); refine' copy_L ?F ?N ?hl ?hs ?hz ?_ ?he; (case F => k_asm); (case N => k_asm); (case hl => k_mem); (case hs => exact List.Mem.head _); (case hz => rw [sizeLine_eq]; omega); (case he => with_unfolding_all rfl); intro D' h' F' N' l1'; (try k_sweep)))
local macro_rules | `(tactic| walk_at "enter_more") => `(tactic| (refine' kp_more ?k1 ?k2 ?k3 ?k4 ?k5 ?kA ?kF ?kK ?k6 ?k7 ?k8 ?kX ?kM ?kN ?kD ?kR ?kP ?kT ?kB ?_ ?c2 ?c3 ?c4 ?c5; (case kA => assumption); (case kF => assumption); (case kK => assumption); (case k1 => k_asm); (case k2 => k_asm); (case k3 => k_asm); (case k4 => k_asm); (case k5 => k_asm); (case k6 => k_is); (case k7 => k_is); (case k8 => k_room); (case kX => kp_lit); (case kM => exact rfl); (case kN => exact rfl); (case kD => kp_flats); (case kR => exact rfl); (case kP => exact rfl); (case kT => exact fun _ => rfl); (case kB => exact fun _ => locs rfl); (case c5 => decide); (case c2 => exact rfl); (case c3 => exact rfl); (case c4 => exact rfl); k_whole; intro D' o' g' L' h' tk' l1 lo' hs' fs' FG' F' N' B' X' T'; (try dsimp only); (try k_lift B'); (try k_fold)))
local macro_rules | `(tactic| walk_at "exec For Tuple Name") => `(tactic| refine hold_intro ?_)
local macro_rules | `(tactic| walk_at "exec For Tuple Call") => `(tactic| refine hold_intro ?_)
local macro_rules | `(tactic| walk_at "exec For Tuple Call cons nil") => `(tactic| refine hold_intro ?_)
local macro_rules | `(tactic| walk_at "exec For Tuple Name cons nil") => `(tactic| refine hold_intro ?_)
local macro_rules | `(tactic| walk_at "call builtin:list.append") => `(tactic| (refine' append_L ?F ?N ?hl ?_ ?hz; (case F => k_asm); (case N => k_asm); (case hl => k_mem); (case hz => (rw [sizeLine_eq]; omega)); intro h' F' N'))
local macro_rules | `(tactic| walk_at "mk_sit") => `(tactic| (refine' Sit.mk ?KX ?T ?B ?F ?N ?hA ?hf ?hke ?hroom ?hh; (case KX => k_asm); (case T => k_asm); (case B => k_asm); (case F => k_asm); (case N => k_asm); (case hA => first | with_reducible assumption | exact Around.frames_deeper (Below.stack (by with_reducible assumption)) | rfl); (case hf => first | with_reducible assumption | rfl); (case hke => first | with_reducible assumption | rfl); (case hroom => k_room); (case hh => first | with_reducible assumption | exact handled_deeper (by with_reducible assumption) | assumption | rfl)))
local macro_rules | `(tactic| walk_at "call ref") => `(tactic| ((with_reducible show wpAny _ _ (call (Value.ref 83) [_, Value.str _ _] (List.zip _ [Value.bool true])) _ _ _); k_dflt (refine' conv_name ?S ?ka ?kb ?_; (case S => walk_at "mk_sit"); (case ka => k_asm); (case kb => k_asm); k_whole); intro h' t' F' N'))
local macro_rules | `(tactic| walk_at "call ref") => `(tactic| ((with_reducible show wpAny _ _ (call (Value.ref 83) [_, Value.str _ _] (List.zip _ [Value.bool false])) _ _ _); k_dflt (refine' conv_val ?S ?ka ?kb ?_; (case S => walk_at "mk_sit"); (case ka => k_asm); (case kb => k_asm); k_whole); intro h' t' F' N'))
section
variable {w : World} {A A₀ : Around} {E : Value → Shared → Prop} {s : Shared} {h₀ base : Heap} {env : Env} {outer : List Env} {L x l : Addr} {m mg mb : Str → Option Value} {news : List (Addr × Obj)}
   {p : Program} {loose : List Str} {mean : ExcName → Option Value} {Q : Value → Shared → Prop} {nm : Str} {tk : Tok} {its : Array Value} {n : Nat} {ps : List (Str × Value)}
theorem del_spec (S : Sit w A A₀ base h₀ env outer L m p loose mean mg mb news s.heap 10) (hT : Tab w news x l) (hl : (l, listOf its n) ∈ news) (hsz : its.size ≤ 1000) (P : PairsN news its.toList ps)
   (hsm : nm.length ≤ 1000) (hclean : ctlIn isCtlN (Txt.lower nm).cps = false)
   (h : ∀ h' t' ys n', Fr h₀ L h' m → News h₀ L h' (upd l (listOf ys n') news) → PairsN (upd l (listOf ys n') news) ys.toList (ps.filter fun q => !(Txt.lower q.1 == Txt.lower nm)) → ys.size ≤ its.size → Q .none {s with heap := h', toks := t'}) :
   wpAny (model pg w) A (call (.ref 102) [.ref x, .str nm tk]) Q E s := by
  obtain ⟨KX, T, B, F, N, hA, hf, hke, hroom, hh⟩ := S
  obtain ⟨d, tl, hx, hdd⟩ := hT.at_
  have hlen : (Txt.lower nm).length ≤ 2 ^ 24 := by have := len_lower nm; omega
  refine wpAny_call ?_
  k_enter
  k_steps
  refine hold_elim ?_
  refine' ListComp_del (l := l) (its := its) (n := n) (ps := ps) (key := Txt.lower nm) ?hh ?F ?N ?hl ?hsz P ?hn0 ?hcn ?hoc ?hclos ?hcell ?hkind ?hnames ?hx ?hk ?hv ?hn ?hcl ?hcall ?hs ?hiter ?hQ
  case F => k_asm
  case N => k_asm
  case hl => k_mem
  case hsz => exact Nat.le_trans hsz (by decide)
  case hclos => with_unfolding_all rfl
  case hcell => decide
  case hkind => rfl
  case hnames => decide
  case hx => rfl
  case hk => exact fun _ => rfl
  case hv => exact fun _ => rfl
  case hn => exact fun _ => rfl
  case hcl => rfl
  case hcall => exact fun _ => rfl
  case hs => exact fun _ => rfl
  case hh => exact hh
  case hn0 => exact fun p hp => List.mem_cons_of_mem _ hp
  case hcn => exact List.mem_cons_self
  case hoc => assumption
  case hiter =>
    intro Q' hQ'
    k_steps
    exact hQ' _
  case hQ =>
    intro D h' tk k ys F' N' hne P' hsz'
    k_steps
    refine hold_elim ?_
    refine' setAll_L (l := l) (D := D) ?F ?N ?hl ?hD ?hs ?hlD ?hsz ?h
    case F => k_asm
    case N => k_asm
    case hl => k_mem
    case hD => k_mem
    case hs => exact ⟨_, (News.get (by assumption) (List.mem_cons_self)), rfl, rfl⟩
    case hlD => exact hne _ (List.mem_cons_of_mem _ hl)
    case hsz => rw [sizeLine_eq]; omega
    case h =>
      intro h' n' F' N'
      k_steps
      refine h _ _ ys n' (by assumption) (news_mono (by assumption) fun p hp => upd_cons (upd_cons (upd_cons hp))) (P'.upd N hl (by show Value.type "list" ≠ Value.type "tuple"; decide)) hsz'
end
end Mine
namespace Mine
local macro_rules | `(tactic| k_room) => `(tactic| first | ((try simp only [depth_under_make, depth_under_kw, depth_in1, depth_deeper, depth_caller]); omega) | decide)
local macro_rules | `(tactic| k_enter) => `(tactic| (refine' code_def ?k1 ?k2 ?k3 ?k4 ?k5 ?kA ?kF ?kK ?k6 ?k7 ?k8 ?k9 ?kB ?_ ?c2 ?c3 ?c4 ?c5; (case k1 => k_asm); (case k2 => k_asm); (case k3 => k_asm); (case k4 => k_asm); (case k5 => k_asm); (case kA => assumption); (case kF => assumption); (case kK => assumption);  (case k6 => k_is); (case k7 => k_is); (case k8 => k_room); (case k9 => first | exact BindsTo.of_eq rfl | exact binds_K (by k_in) rfl (by k_is) rfl rfl rfl | fail "k_enter: no rule for these arguments"); (case c5 => decide); (case kB => exact locs rfl); (case c2 => exact rfl); (case c3 => exact rfl); (case c4 => exact rfl); k_whole; intro g' L' h' FG' F' N' B' X' T'; (try dsimp only); (try k_lift B'); (try k_fold)))
local macro_rules | `(tactic| k_enter) => `(tactic| (refine' code_defC ?k1 ?k2 ?k3 ?k4 ?k5 ?kA ?kF ?kK ?k6 ?k7 ?k8 ?k9 ?kB ?kD ?_ ?c2 ?c3 ?c4; (case k1 => k_asm); (case k2 => k_asm); (case k3 => k_asm); (case k4 => k_asm); (case k5 => k_asm); (case kA => assumption); (case kF => assumption); (case kK => assumption); (case k6 => k_is); (case k7 => k_is); (case k8 => k_room); (case k9 => first | exact BindsTo.of_eq rfl | exact binds_K (by k_in) rfl (by k_is) rfl rfl rfl | fail "k_enter: no rule for these arguments"); (case kB => exact rfl); (case kD => decide +kernel); (case c2 => exact rfl); (case c3 => exact rfl); (case c4 => exact rfl); k_whole; intro g' L' h' tk' cells' FG' F' N' Y' B' X' T' l1; k_cells Y'; (try simp only [List.cons_append, List.nil_append] at N'); (try dsimp only); (try k_lift B'); (try k_fold)))
local macro_rules | `(tactic| k_mem) => `(tactic| first | assumption | exact List.Mem.head _ | (refine' List.Mem.tail _ ?_; k_mem))
local macro_rules | `(tactic| k_all) => `(tactic| exact all_ne_of_lt (by assumption) (by first | exact Nat.le_refl _ | exact Nat.le_succ _ | omega))
local macro_rules | `(tactic| walk_at "call builtin:str.lower") => `(tactic| (refine PyProof.Rows.SCL.lower (by omega) ?_; intro _))
local macro_rules | `(tactic| walk_at "eval ListComp") => `(tactic| refine hold_intro ?_)
local macro_rules | `(tactic| walk_at "eval Slice none none none") => `(tactic| (refine slice_K (by assumption) (by assumption) ?_; intro sl' h' F' N'; (try k_sweep)))
local macro_rules | `(tactic| walk_at "setItem ref ref ref") => `(tactic| refine hold_intro ?_)
local macro_rules | `(tactic| walk_at "exec Assign cons ListComp") => `(tactic| ((with_reducible show wpAny _ _ (exec (Stmt.Assign [Expr.Subscript _ _ _] _ _) _) _ _ _); refine wpAny_Assign_Subscript ?_))
local macro_rules | `(tactic| walk_at "call builtin:len") => `(tactic| (refine' len_L ?N ?hl ?hs ?_; (case N => k_asm); (case hl => k_mem); (case hs => omega); intro t' tk'))
local macro_rules | `(tactic| walk_at "subscriptTail Name Slice ref ref") => `(tactic| ((with_reducible show wpAny _ _ (subscriptTail _ _ (Value.ref _) (Value.ref _)) _ _ _); refine' copy_L ?F ?N ?hl ?hs ?hz ?_ ?he; (case F => k_asm); (case N => k_asm); (case hl => k_mem); (case hs => exact List.Mem.head _); (case hz => rw [sizeLine_eq]; omega); (case he => with_unfolding_all rfl); intro D' h' F' N' l1'; (try k_sweep)))
local macro_rules | `(tactic| walk_at "enter_more") => `(tactic| (refine' kp_more ?k1 ?k2 ?k3 ?k4 ?k5 ?kA ?kF ?kK ?k6 ?k7 ?k8 ?kX ?kM ?kN ?kD ?kR ?kP ?kT ?kB ?_ ?c2 ?c3 ?c4 ?c5; (case kA => assumption); (case kF => assumption); (case kK => assumption); (case k1 => k_asm); (case k2 => k_asm); (case k3 => k_asm); (case k4 => k_asm); (case k5 => k_asm); (case k6 => k_is); (case k7 => k_is); (case k8 => k_room); (case kX => kp_lit); (case kM => exact rfl); (case kN => exact rfl); (case kD => kp_flats); (case kR => exact rfl); (case kP => exact rfl); (case kT => exact fun _ => rfl); (case kB => exact fun _ => locs rfl); (case c5 => decide); (case c2 => exact rfl); (case c3 => exact rfl); (case c4 => exact rfl); k_whole; intro D' o' g' L' h' tk' l1 lo' hs' fs' FG' F' N' B' X' T'; (try dsimp only); (try k_lift B'); (try k_fold)))
local macro_rules | `(tactic| walk_at "exec For Tuple Name") => `(tactic| refine hold_intro ?_)
local macro_rules | `(tactic| walk_at "exec For Tuple Call") => `(tactic| refine hold_intro ?_)
local macro_rules | `(tactic| walk_at "exec For Tuple Call cons nil") => `(tactic| refine hold_intro ?_)
local macro_rules | `(tactic| walk_at "exec For Tuple Name cons nil") => `(tactic| refine hold_intro ?_)
local macro_rules | `(tactic| walk_at "call builtin:list.append") => `(tactic| (refine' append_L ?F ?N ?hl ?_ ?hz; (case F => k_asm); (case N => k_asm); (case hl => k_mem); (case hz => (rw [sizeLine_eq]; omega)); intro h' F' N'))
local macro_rules | `(tactic| walk_at "mk_sit") => `(tactic| (refine' Sit.mk ?KX ?T ?B ?F ?N ?hA ?hf ?hke ?hroom ?hh; (case KX => k_asm); (case T => k_asm); (case B => k_asm); (case F => k_asm); (case N => k_asm); (case hA => first | with_reducible assumption | exact Around.frames_deeper (Below.stack (by with_reducible assumption)) | rfl); (case hf => first | with_reducible assumption | rfl); (case hke => first | with_reducible assumption | rfl); (case hroom => k_room); (case hh => first | with_reducible assumption | exact handled_deeper (by with_reducible assumption) | assumption | rfl)))
local macro_rules | `(tactic| walk_at "call ref") => `(tactic| ((with_reducible show wpAny _ _ (call (Value.ref 83) [_, Value.str _ _] (List.zip _ [Value.bool true])) _ _ _); k_dflt (refine' conv_name ?S ?ka ?kb ?_; (case S => walk_at "mk_sit"); (case ka => k_asm); (case kb => k_asm); k_whole); intro h' t' F' N'))
local macro_rules | `(tactic| walk_at "call ref") => `(tactic| ((with_reducible show wpAny _ _ (call (Value.ref 83) [_, Value.str _ _] (List.zip _ [Value.bool false])) _ _ _); k_dflt (refine' conv_val ?S ?ka ?kb ?_; (case S => walk_at "mk_sit"); (case ka => k_asm); (case kb => k_asm); k_whole); intro h' t' F' N'))
section
variable {w : World} {A A₀ : Around} {E : Value → Shared → Prop} {s : Shared} {h₀ base : Heap} {env : Env} {outer : List Env} {L x l : Addr} {m mg mb : Str → Option Value} {news : List (Addr × Obj)}
   {p : Program} {loose : List Str} {mean : ExcName → Option Value} {Q : Value → Shared → Prop} {nm : Str} {tk : Tok} {its : Array Value} {n : Nat} {ps : List (Str × Value)}
theorem len_spec (S : Sit w A A₀ base h₀ env outer L m p loose mean mg mb news s.heap 10) (hT : Tab w news x l) (hl : (l, listOf its n) ∈ news) (hsz : its.size ≤ 1000)
   (h : ∀ h' t' tk, Fr h₀ L h' m → News h₀ L h' news → Q (.int its.size tk) {s with heap := h', toks := t'}) :
   wpAny (model pg w) A (call (.builtin "len") [.ref x]) Q E s := by
  obtain ⟨KX, T, B, F, N, hA, hf, hke, hroom, hh⟩ := S
  obtain ⟨d, tl, hx, hdd⟩ := hT.at_
  k_steps
  exact h _ _ _ (by assumption) (by assumption)
theorem items_spec (S : Sit w A A₀ base h₀ env outer L m p loose mean mg mb news s.heap 10) (hT : Tab w news x l) (hl : (l, listOf its n) ∈ news) (hsz : its.size ≤ 1000)
   (h : ∀ D h' t', Fr h₀ L h' m → News h₀ L h' ((D, listOf its 0) :: news) → (∀ p ∈ news, p.1 < D) → Q (.ref D) {s with heap := h', toks := t'}) :
   wpAny (model pg w) A (call (.ref 146) [.ref x]) Q E s := by
  obtain ⟨KX, T, B, F, N, hA, hf, hke, hroom, hh⟩ := S
  obtain ⟨d, tl, hx, hdd⟩ := hT.at_
  refine wpAny_call ?_
  k_enter
  k_steps
  exact h _ _ _ (by assumption) (news_mono (by assumption) fun q hq => (List.mem_cons.mp hq).elim (fun e => List.mem_cons.mpr (.inl e)) fun e => .tail _ (.tail _ e)) (fun q hq => (by assumption : ∀ q ∈ (_, sliceAll) :: news, q.1 < _) q (.tail _ hq))
end
end Mine
namespace Mine
local macro_rules | `(tactic| k_room) => `(tactic| first | ((try simp only [depth_under_make, depth_under_kw, depth_in1, depth_deeper, depth_caller]); omega) | decide)
local macro_rules | `(tactic| k_enter) => `(tactic| (refine' code_def ?k1 ?k2 ?k3 ?k4 ?k5 ?kA ?kF ?kK ?k6 ?k7 ?k8 ?k9 ?kB ?_ ?c2 ?c3 ?c4 ?c5; (case k1 => k_asm); (case k2 => k_asm); (case k3 => k_asm); (case k4 => k_asm); (case k5 => k_asm); (case kA => assumption); (case kF => assumption); (case kK => assumption);  (case k6 => k_is); (case k7 => k_is); (case k8 => k_room); (case k9 => first | exact BindsTo.of_eq rfl | exact binds_K (by k_in) rfl (by k_is) rfl rfl rfl | fail "k_enter: no rule for these arguments"); (case c5 => decide); (case kB => exact locs rfl); (case c2 => exact rfl); (case c3 => exact rfl); (case c4 => exact rfl); k_whole; intro g' L' h' FG' F' N' B' X' T'; (try dsimp only); (try k_lift B'); (try k_fold)))
local macro_rules | `(tactic| k_enter) => `(tactic| (refine' code_defC ?k1 ?k2 ?k3 ?k4 ?k5 ?kA ?kF ?kK ?k6 ?k7 ?k8 ?k9 ?kB ?kD ?_ ?c2 ?c3 ?c4; (case k1 => k_asm); (case k2 => k_asm); (case k3 => k_asm); (case k4 => k_asm); (case k5 => k_asm); (case kA => assumption); (case kF => assumption); (case kK => assumption); (case k6 => k_is); (case k7 => k_is); (case k8 => k_room); (case k9 => first | exact BindsTo.of_eq rfl | exact binds_K (by k_in) rfl (by k_is) rfl rfl rfl | fail "k_enter: no rule for these arguments"); (case kB => exact rfl); (case kD => decide +kernel); (case c2 => exact rfl); (case c3 => exact rfl); (case c4 => exact rfl); k_whole; intro g' L' h' tk' cells' FG' F' N' Y' B' X' T' l1; k_cells Y'; (try simp only [List.cons_append, List.nil_append] at N'); (try dsimp only); (try k_lift B'); (try k_fold)))
local macro_rules | `(tactic| k_mem) => `(tactic| first | assumption | exact List.Mem.head _ | (refine' List.Mem.tail _ ?_; k_mem))
local macro_rules | `(tactic| k_all) => `(tactic| exact all_ne_of_lt (by assumption) (by first | exact Nat.le_refl _ | exact Nat.le_succ _ | omega))
local macro_rules | `(tactic| walk_at "call builtin:str.lower") => `(tactic| (refine PyProof.Rows.SCL.lower (by omega) ?_; intro _))
local macro_rules | `(tactic| walk_at "eval ListComp") => `(tactic| refine hold_intro ?_)
local macro_rules | `(tactic| walk_at "eval Slice none none none") => `(tactic| (refine slice_K (by assumption) (by assumption) ?_; intro sl' h' F' N'; (try k_sweep)))
local macro_rules | `(tactic| walk_at "setItem ref ref ref") => `(tactic| refine hold_intro ?_)
local macro_rules | `(tactic| walk_at "exec Assign cons ListComp") => `(tactic| ((with_reducible show wpAny _ _ (exec (Stmt.Assign [Expr.Subscript _ _ _] _ _) _) _ _ _); refine wpAny_Assign_Subscript ?_))
local macro_rules | `(tactic| walk_at "call builtin:len") => `(tactic| (refine' len_L ?N ?hl ?hs ?_; (case N => k_asm); (case hl => k_mem); (case hs => omega); intro t' tk'))
local macro_rules | `(tactic| walk_at "subscriptTail Name Slice ref ref") => `(tactic| ((with_reducible show wpAny _ _ (subscriptTail _ _ (Value.ref _) (Value.ref _)) _ _ _); refine' copy_L ?F ?N ?hl ?hs ?hz ?_ ?he; (case F => k_asm); (case N => k_asm); (case hl => k_mem); (case hs => exact List.Mem.head _); (case hz => rw [sizeLine_eq]; omega); (case he => with_unfolding_all rfl); intro D' h' F' N' l1'; (try k_sweep)))
local macro_rules | `(tactic| walk_at "enter_more") => `(tactic| (refine' kp_more ?k1 ?k2 ?k3 ?k4 ?k5 ?kA ?kF ?kK ?k6 ?k7 ?k8 ?kX ?kM ?kN ?kD ?kR ?kP ?kT ?kB ?_ ?c2 ?c3 ?c4 ?c5; (case kA => assumption); (case kF => assumption); (case kK => assumption); (case k1 => k_asm); (case k2 => k_asm); (case k3 => k_asm); (case k4 => k_asm); (case k5 => k_asm); (case k6 => k_is); (case k7 => k_is); (case k8 => k_room); (case kX => kp_lit); (case kM => exact rfl); (case kN => exact rfl); (case kD => kp_flats); (case kR => exact rfl); (case kP => exact rfl); (case kT => exact fun _ => rfl); (case kB => exact fun _ => locs rfl); (case c5 => decide); (case c2 => exact rfl); (case c3 => exact rfl); (case c4 => exact rfl); k_whole; intro D' o' g' L' h' tk' l1 lo' hs' fs' FG' F' N' B' X' T'; (try dsimp only); (try k_lift B'); (try k_fold)))
local macro_rules | `(tactic| walk_at "exec For Tuple Name") => `(tactic| refine hold_intro ?_)
local macro_rules | `(tactic| walk_at "exec For Tuple Call") => `(tactic| refine hold_intro ?_)
local macro_rules | `(tactic| walk_at "exec For Tuple Call cons nil") => `(tactic| refine hold_intro ?_)
local macro_rules | `(tactic| walk_at "exec For Tuple Name cons nil") => `(tactic| refine hold_intro ?_)
local macro_rules | `(tactic| walk_at "call builtin:list.append") => `(tactic| (refine' append_L ?F ?N ?hl ?_ ?hz; (case F => k_asm); (case N => k_asm); (case hl => k_mem); (case hz => (rw [sizeLine_eq]; omega)); intro h' F' N'))
local macro_rules | `(tactic| walk_at "mk_sit") => `(tactic| (refine' Sit.mk ?KX ?T ?B ?F ?N ?hA ?hf ?hke ?hroom ?hh; (case KX => k_asm); (case T => k_asm); (case B => k_asm); (case F => k_asm); (case N => k_asm); (case hA => first | with_reducible assumption | exact Around.frames_deeper (Below.stack (by with_reducible assumption)) | rfl); (case hf => first | with_reducible assumption | rfl); (case hke => first | with_reducible assumption | rfl); (case hroom => k_room); (case hh => first | with_reducible assumption | exact handled_deeper (by with_reducible assumption) | assumption | rfl)))
local macro_rules | `(tactic| walk_at "call ref") => `(tactic| ((with_reducible show wpAny _ _ (call (Value.ref 83) [_, Value.str _ _] (List.zip _ [Value.bool true])) _ _ _); k_dflt (refine' conv_name ?S ?ka ?kb ?_; (case S => walk_at "mk_sit"); (case ka => k_asm); (case kb => k_asm); k_whole); intro h' t' F' N'))
local macro_rules | `(tactic| walk_at "call ref") => `(tactic| ((with_reducible show wpAny _ _ (call (Value.ref 83) [_, Value.str _ _] (List.zip _ [Value.bool false])) _ _ _); k_dflt (refine' conv_val ?S ?ka ?kb ?_; (case S => walk_at "mk_sit"); (case ka => k_asm); (case kb => k_asm); k_whole); intro h' t' F' N'))
section
variable {w : World} {A A₀ : Around} {E : Value → Shared → Prop} {s : Shared} {h₀ base : Heap} {env : Env} {outer : List Env} {L x l : Addr} {m mg mb : Str → Option Value} {news : List (Addr × Obj)}
   {p : Program} {loose : List Str} {mean : ExcName → Option Value} {Q : Value → Shared → Prop} {nm : Str} {tk : Tok} {its : Array Value} {n : Nat} {ps : List (Str × Value)}
theorem add_none (S : Sit w A A₀ base h₀ env outer L m p loose mean mg mb news s.heap 10) (hT : Tab w news x l) (hl : (l, listOf its n) ∈ news) (hsz : its.size ≤ 1000) (P : PairsN news its.toList ps)
   (hsm : nm.length ≤ 1000) (hclean : ctlIn isCtlN nm.cps = false)
   (h : ∀ h' t' t tk' ty, Fr h₀ L h' m → News h₀ L h' (upd l (listOf (its.push (.ref t)) (n + 1)) ((t, pairObj nm tk' (.str Str.empty ty)) :: news)) → PairsN (upd l (listOf (its.push (.ref t)) (n + 1)) ((t, pairObj nm tk' (.str Str.empty ty)) :: news)) (its.push (.ref t)).toList (ps ++ [(nm, .str Str.empty ty)]) → Q .none {s with heap := h', toks := t'}) :
   wpAny (model pg w) A (call (.ref 179) [.ref x, .str nm tk, .none]) Q E s := by
  obtain ⟨KX, T, B, F, N, hA, hf, hke, hroom, hh⟩ := S
  obtain ⟨d, tl, hx, hdd⟩ := hT.at_
  have hlen : nm.length ≤ 2 ^ 24 := by omega
  refine wpAny_call ?_
  walk_at "enter_more"
  k_steps
  refine hold_elim ?_
  rename Obj.IsDictOf .. => hs'
  refine' for_items_exec (KeepJ _ _) ?hh ?F ?N ?hbase ?hline ?ho ?hlo hs' ?hJ ?hl ?j0 ?turn ?done
  case hh => exact hh
  case F => k_asm
  case N => k_asm
  case j0 => exact KeepJ.start
  case hbase => rfl
  case hline => rfl
  case hlo => assumption
  case hJ => exact KeepJ.mono
  case hl => exact fun i m n h => h.2 _ (.tail _ (.head _))
  case ho => intro Q' hQ'; k_steps; exact hQ'
  case turn => intro i k v key t m₁ n₁ h tk it e; simp at e
  case done =>
    rintro m₁ n₁ h₂ tk₂ ⟨rfl, hsub⟩ F' N'
    have N' := news_mono N' hsub
    clear hsub
    k_steps
    refine h _ _ _ _ _ (by assumption) (news_mono (by assumption) (upd_sub fun p hp => (List.mem_cons.mp hp).elim (fun e => List.mem_cons.mpr (.inl e)) fun e => .tail _ (.tail _ (.tail _ e)))) (add_end (by assumption) (fun p hp => .tail _ (.tail _ hp)) hl P hsm)
end
end Mine
namespace Mine
local macro_rules | `(tactic| k_room) => `(tactic| first | ((try simp only [depth_under_make, depth_under_kw, depth_in1, depth_deeper, depth_caller]); omega) | decide)
local macro_rules | `(tactic| k_enter) => `(tactic| (refine' code_def ?k1 ?k2 ?k3 ?k4 ?k5 ?kA ?kF ?kK ?k6 ?k7 ?k8 ?k9 ?kB ?_ ?c2 ?c3 ?c4 ?c5; (case k1 => k_asm); (case k2 => k_asm); (case k3 => k_asm); (case k4 => k_asm); (case k5 => k_asm); (case kA => assumption); (case kF => assumption); (case kK => assumption);  (case k6 => k_is); (case k7 => k_is); (case k8 => k_room); (case k9 => first | exact BindsTo.of_eq rfl | exact binds_K (by k_in) rfl (by k_is) rfl rfl rfl | fail "k_enter: no rule for these arguments"); (case c5 => decide); (case kB => exact locs rfl); (case c2 => exact rfl); (case c3 => exact rfl); (case c4 => exact rfl); k_whole; intro g' L' h' FG' F' N' B' X' T'; (try dsimp only); (try k_lift B'); (try k_fold)))
local macro_rules | `(tactic| k_enter) => `(tactic| (refine' code_defC ?k1 ?k2 ?k3 ?k4 ?k5 ?kA ?kF ?kK ?k6 ?k7 ?k8 ?k9 ?kB ?kD ?_ ?c2 ?c3 ?c4; (case k1 => k_asm); (case k2 => k_asm); (case k3 => k_asm); (case k4 => k_asm); (case k5 => k_asm); (case kA => assumption); (case kF => assumption); (case kK => assumption); (case k6 => k_is); (case k7 => k_is); (case k8 => k_room); (case k9 => first | exact BindsTo.of_eq rfl | exact binds_K (by k_in) rfl (by k_is) rfl rfl rfl | fail "k_enter: no rule for these arguments"); (case kB => exact rfl); (case kD => decide +kernel); (case c2 => exact rfl); (case c3 => exact rfl); (case c4 => exact rfl); k_whole; intro g' L' h' tk' cells' FG' F' N' Y' B' X' T' l1; k_cells Y'; (try simp only [List.cons_append, List.nil_append] at N'); (try dsimp only); (try k_lift B'); (try k_fold)))
local macro_rules | `(tactic| k_mem) => `(tactic| first | assumption | exact List.Mem.head _ | (refine' List.Mem.tail _ ?_; k_mem))
local macro_rules | `(tactic| k_all) => `(tactic| exact all_ne_of_lt (by assumption) (by first | exact Nat.le_refl _ | exact Nat.le_succ _ | omega))
local macro_rules | `(tactic| walk_at "call builtin:str.lower") => `(tactic| (refine PyProof.Rows.SCL.lower (by omega) ?_; intro _))
local macro_rules | `(tactic| walk_at "eval ListComp") => `(tactic| refine hold_intro ?_)
local macro_rules | `(tactic| walk_at "eval Slice none none none") => `(tactic| (refine slice_K (by assumption) (by assumption) ?_; intro sl' h' F' N'; (try k_sweep)))
local macro_rules | `(tactic| walk_at "setItem ref ref ref") => `(tactic| refine hold_intro ?_)
local macro_rules | `(tactic| walk_at "exec Assign cons ListComp") => `(tactic| ((with_reducible show wpAny _ _ (exec (Stmt.Assign [Expr.Subscript _ _ _] _ _) _) _ _ _); refine wpAny_Assign_Subscript ?_))
local macro_rules | `(tactic| walk_at "call builtin:len") => `(tactic| (refine' len_L ?N ?hl ?hs ?_; (case N => k_asm); (case hl => k_mem); (case hs => omega); intro t' tk'))
local macro_rules | `(tactic| walk_at "subscriptTail Name Slice ref ref") => `(tactic| ((with_reducible show wpAny _ _ (subscriptTail _ _ (Value.ref _) (Value.ref _)) _ _ _); refine' copy_L ?F ?N ?hl ?hs ?hz ?_ ?he; (case F => k_asm); (case N => k_asm); (case hl => k_mem); (case hs => exact List.Mem.head _); (case hz => rw [sizeLine_eq]; omega); (case he => with_unfolding_all rfl); intro D' h' F' N' l1'; (try k_sweep)))
local macro_rules | `(tactic| walk_at "enter_more") => `(tactic| (refine' kp_more ?k1 ?k2 ?k3 ?k4 ?k5 ?kA ?kF ?kK ?k6 ?k7 ?k8 ?kX ?kM ?kN ?kD ?kR ?kP ?kT ?kB ?_ ?c2 ?c3 ?c4 ?c5; (case kA => assumption); (case kF => assumption); (case kK => assumption); (case k1 => k_asm); (case k2 => k_asm); (case k3 => k_asm); (case k4 => k_asm); (case k5 => k_asm); (case k6 => k_is); (case k7 => k_is); (case k8 => k_room); (case kX => kp_lit); (case kM => exact rfl); (case kN => exact rfl); (case kD => kp_flats); (case kR => exact rfl); (case kP => exact rfl); (case kT => exact fun _ => rfl); (case kB => exact fun _ => locs rfl); (case c5 => decide); (case c2 => exact rfl); (case c3 => exact rfl); (case c4 => exact rfl); k_whole; intro D' o' g' L' h' tk' l1 lo' hs' fs' FG' F' N' B' X' T'; (try dsimp only); (try k_lift B'); (try k_fold)))
local macro_rules | `(tactic| walk_at "exec For Tuple Name") => `(tactic| refine hold_intro ?_)
local macro_rules | `(tactic| walk_at "exec For Tuple Call") => `(tactic| refine hold_intro ?_)
local macro_rules | `(tactic| walk_at "exec For Tuple Call cons nil") => `(tactic| refine hold_intro ?_)
local macro_rules | `(tactic| walk_at "exec For Tuple Name cons nil") => `(tactic| refine hold_intro ?_)
local macro_rules | `(tactic| walk_at "call builtin:list.append") => `(tactic| (refine' append_L ?F ?N ?hl ?_ ?hz; (case F => k_asm); (case N => k_asm); (case hl => k_mem); (case hz => (rw [sizeLine_eq]; omega)); intro h' F' N'))
local macro_rules | `(tactic| walk_at "mk_sit") => `(tactic| (refine' Sit.mk ?KX ?T ?B ?F ?N ?hA ?hf ?hke ?hroom ?hh; (case KX => k_asm); (case T => k_asm); (case B => k_asm); (case F => k_asm); (case N => k_asm); (case hA => first | with_reducible assumption | exact Around.frames_deeper (Below.stack (by with_reducible assumption)) | rfl); (case hf => first | with_reducible assumption | rfl); (case hke => first | with_reducible assumption | rfl); (case hroom => k_room); (case hh => first | with_reducible assumption | exact handled_deeper (by with_reducible assumption) | assumption | rfl)))
local macro_rules | `(tactic| walk_at "call ref") => `(tactic| ((with_reducible show wpAny _ _ (call (Value.ref 83) [_, Value.str _ _] (List.zip _ [Value.bool true])) _ _ _); k_dflt (refine' conv_name ?S ?ka ?kb ?_; (case S => walk_at "mk_sit"); (case ka => k_asm); (case kb => k_asm); k_whole); intro h' t' F' N'))
local macro_rules | `(tactic| walk_at "call ref") => `(tactic| ((with_reducible show wpAny _ _ (call (Value.ref 83) [_, Value.str _ _] (List.zip _ [Value.bool false])) _ _ _); k_dflt (refine' conv_val ?S ?ka ?kb ?_; (case S => walk_at "mk_sit"); (case ka => k_asm); (case kb => k_asm); k_whole); intro h' t' F' N'))
section
variable {w : World} {A A₀ : Around} {E : Value → Shared → Prop} {s : Shared} {h₀ base : Heap} {env : Env} {outer : List Env} {L x l : Addr} {m mg mb : Str → Option Value} {news : List (Addr × Obj)}
   {p : Program} {loose : List Str} {mean : ExcName → Option Value} {Q : Value → Shared → Prop} {nm : Str} {tk : Tok} {its : Array Value} {n : Nat} {ps : List (Str × Value)}
theorem init_spec (S : Sit w A A₀ base h₀ env outer L m p loose mean mg mb news s.heap 15) (hl : (l, listOf its n) ∈ news) (hsz : its.size ≤ 1000) (P : PairsN news its.toList ps)
   (hall : ∀ q ∈ ps, ctlIn isCtlN q.1.cps = false ∧ ∃ y ty, q.2 = .str y ty ∧ ctlIn isCtlV y.cps = false ∧ y.length ≤ 1000)
   (h : ∀ x d h' t' tl, Fr h₀ L h' m → News h₀ L h' ((x, instObj 182 d) :: (d, dictOf [⟨PyData.keyHash w.params (Str.ofString "_headers"), .str (Str.ofString "_headers") tl, .ref l⟩] 1) :: news) → Q (.ref x) {s with heap := h', toks := t'}) :
   wpAny (model pg w) A (call (.ref 182) [.ref l]) Q E s := by
  obtain ⟨KX, T, B, F, N, hA, hf, hke, hroom, hh⟩ := S
  k_steps
  refine hold_elim ?_
  refine wpAny_For ?_
  k_steps
  refine' for_list (l := l) (its := its) (n := n) (Keep2 (Str.ofString "k") (Str.ofString "v") _ _) ?hh ?F ?N ?hJ ?hl ?j0 ?turn ?done
  case hh => exact hh
  case F => k_asm
  case N => k_asm
  case j0 => exact Keep2.start
  case hJ => exact Keep2.mono
  case hl => exact fun i m n h => h.2 _ (.tail _ (.tail _ hl))
  case turn =>
    rintro i v m₁ n₁ h₂ tk₂ it e ⟨⟨u₁, u₂, rfl⟩, hsub⟩ hit him F' N'
    obtain ⟨t, nm, tk, val, rfl, ht, hsm, hps⟩ := P.at_ i v (by rw [Array.getElem?_toList]; exact e)
    obtain ⟨hc1, y, ty, hy, hc2, hsy⟩ := hall _ (List.mem_of_getElem? hps)
    dsimp only at hy hc1
    subst hy
    have hlen1 : nm.length ≤ 2 ^ 24 := by omega
    have hlen2 : y.length ≤ 2 ^ 24 := by omega
    have N' := news_mono N' (cons_sub him hsub)
    clear him hsub
    refine assign_pair hh F' N' (.tail _ (.tail _ (.tail _ ht))) rfl rfl rfl ?_
    intro h₃ tk₃ F' N'
    k_steps
    refine ⟨_, _, _, _, rfl, by assumption, by assumption, .head _, ⟨_, _, over2_over⟩, fun p hp => .tail _ hp⟩
  case done =>
    rintro m₁ n₁ h₂ tk₂ ⟨⟨u₁, u₂, rfl⟩, hsub⟩ F' N'
    have N' := news_mono N' hsub
    clear hsub
    k_steps
    exact h _ _ _ _ _ (by assumption) (by assumption)
end
end Mine
namespace Mine
local macro_rules | `(tactic| k_room) => `(tactic| first | ((try simp only [depth_under_make, depth_under_kw, depth_in1, depth_deeper, depth_caller]); omega) | decide)
local macro_rules | `(tactic| k_enter) => `(tactic| (refine' code_def ?k1 ?k2 ?k3 ?k4 ?k5 ?kA ?kF ?kK ?k6 ?k7 ?k8 ?k9 ?kB ?_ ?c2 ?c3 ?c4 ?c5; (case k1 => k_asm); (case k2 => k_asm); (case k3 => k_asm); (case k4 => k_asm); (case k5 => k_asm); (case kA => assumption); (case kF => assumption); (case kK => assumption);  (case k6 => k_is); (case k7 => k_is); (case k8 => k_room); (case k9 => first | exact BindsTo.of_eq rfl | exact binds_K (by k_in) rfl (by k_is) rfl rfl rfl | fail "k_enter: no rule for these arguments"); (case c5 => decide); (case kB => exact locs rfl); (case c2 => exact rfl); (case c3 => exact rfl); (case c4 => exact rfl); k_whole; intro g' L' h' FG' F' N' B' X' T'; (try dsimp only); (try k_lift B'); (try k_fold)))
local macro_rules | `(tactic| k_enter) => `(tactic| (refine' code_defC ?k1 ?k2 ?k3 ?k4 ?k5 ?kA ?kF ?kK ?k6 ?k7 ?k8 ?k9 ?kB ?kD ?_ ?c2 ?c3 ?c4; (case k1 => k_asm); (case k2 => k_asm); (case k3 => k_asm); (case k4 => k_asm); (case k5 => k_asm); (case kA => assumption); (case kF => assumption); (case kK => assumption); (case k6 => k_is); (case k7 => k_is); (case k8 => k_room); (case k9 => first | exact BindsTo.of_eq rfl | exact binds_K (by k_in) rfl (by k_is) rfl rfl rfl | fail "k_enter: no rule for these arguments"); (case kB => exact rfl); (case kD => decide +kernel); (case c2 => exact rfl); (case c3 => exact rfl); (case c4 => exact rfl); k_whole; intro g' L' h' tk' cells' FG' F' N' Y' B' X' T' l1; k_cells Y'; (try simp only [List.cons_append, List.nil_append] at N'); (try dsimp only); (try k_lift B'); (try k_fold)))
local macro_rules | `(tactic| k_mem) => `(tactic| first | assumption | exact List.Mem.head _ | (refine' List.Mem.tail _ ?_; k_mem))
local macro_rules | `(tactic| k_all) => `(tactic| exact all_ne_of_lt (by assumption) (by first | exact Nat.le_refl _ | exact Nat.le_succ _ | omega))
local macro_rules | `(tactic| walk_at "call builtin:str.lower") => `(tactic| (refine PyProof.Rows.SCL.lower (by omega) ?_; intro _))
local macro_rules | `(tactic| walk_at "eval ListComp") => `(tactic| refine hold_intro ?_)
local macro_rules | `(tactic| walk_at "eval Slice none none none") => `(tactic| (refine slice_K (by assumption) (by assumption) ?_; intro sl' h' F' N'; (try k_sweep)))
local macro_rules | `(tactic| walk_at "setItem ref ref ref") => `(tactic| refine hold_intro ?_)
local macro_rules | `(tactic| walk_at "exec Assign cons ListComp") => `(tactic| ((with_reducible show wpAny _ _ (exec (Stmt.Assign [Expr.Subscript _ _ _] _ _) _) _ _ _); refine wpAny_Assign_Subscript ?_))
local macro_rules | `(tactic| walk_at "call builtin:len") => `(tactic| (refine' len_L ?N ?hl ?hs ?_; (case N => k_asm); (case hl => k_mem); (case hs => omega); intro t' tk'))
local macro_rules | `(tactic| walk_at "subscriptTail Name Slice ref ref") => `(tactic| ((with_reducible show wpAny _ _ (subscriptTail _ _ (Value.ref _) (Value.ref _)) _ _ _); refine' copy_L ?F ?N ?hl ?hs ?hz ?_ ?he; (case F => k_asm); (case N => k_asm); (case hl => k_mem); (case hs => exact List.Mem.head _); (case hz => rw [sizeLine_eq]; omega); (case he => with_unfolding_all rfl); intro D' h' F' N' l1'; (try k_sweep)))
local macro_rules | `(tactic| walk_at "enter_more") => `(tactic| (refine' kp_more ?k1 ?k2 ?k3 ?k4 ?k5 ?kA ?kF ?kK ?k6 ?k7 ?k8 ?kX ?kM ?kN ?kD ?kR ?kP ?kT ?kB ?_ ?c2 ?c3 ?c4 ?c5; (case kA => assumption); (case kF => assumption); (case kK => assumption); (case k1 => k_asm); (case k2 => k_asm); (case k3 => k_asm); (case k4 => k_asm); (case k5 => k_asm); (case k6 => k_is); (case k7 => k_is); (case k8 => k_room); (case kX => kp_lit); (case kM => exact rfl); (case kN => exact rfl); (case kD => kp_flats); (case kR => exact rfl); (case kP => exact rfl); (case kT => exact fun _ => rfl); (case kB => exact fun _ => locs rfl); (case c5 => decide); (case c2 => exact rfl); (case c3 => exact rfl); (case c4 => exact rfl); k_whole; intro D' o' g' L' h' tk' l1 lo' hs' fs' FG' F' N' B' X' T'; (try dsimp only); (try k_lift B'); (try k_fold)))
local macro_rules | `(tactic| walk_at "exec For Tuple Name") => `(tactic| refine hold_intro ?_)
local macro_rules | `(tactic| walk_at "exec For Tuple Call") => `(tactic| refine hold_intro ?_)
local macro_rules | `(tactic| walk_at "exec For Tuple Call cons nil") => `(tactic| refine hold_intro ?_)
local macro_rules | `(tactic| walk_at "exec For Tuple Name cons nil") => `(tactic| refine hold_intro ?_)
local macro_rules | `(tactic| walk_at "call builtin:list.append") => `(tactic| (refine' append_L ?F ?N ?hl ?_ ?hz; (case F => k_asm); (case N => k_asm); (case hl => k_mem); (case hz => (rw [sizeLine_eq]; omega)); intro h' F' N'))
local macro_rules | `(tactic| walk_at "mk_sit") => `(tactic| (refine' Sit.mk ?KX ?T ?B ?F ?N ?hA ?hf ?hke ?hroom ?hh; (case KX => k_asm); (case T => k_asm); (case B => k_asm); (case F => k_asm); (case N => k_asm); (case hA => first | with_reducible assumption | exact Around.frames_deeper (Below.stack (by with_reducible assumption)) | rfl); (case hf => first | with_reducible assumption | rfl); (case hke => first | with_reducible assumption | rfl); (case hroom => k_room); (case hh => first | with_reducible assumption | exact handled_deeper (by with_reducible assumption) | assumption | rfl)))
local macro_rules | `(tactic| walk_at "call ref") => `(tactic| ((with_reducible show wpAny _ _ (call (Value.ref 83) [_, Value.str _ _] (List.zip _ [Value.bool true])) _ _ _); k_dflt (refine' conv_name ?S ?ka ?kb ?_; (case S => walk_at "mk_sit"); (case ka => k_asm); (case kb => k_asm); k_whole); intro h' t' F' N'))
local macro_rules | `(tactic| walk_at "call ref") => `(tactic| ((with_reducible show wpAny _ _ (call (Value.ref 83) [_, Value.str _ _] (List.zip _ [Value.bool false])) _ _ _); k_dflt (refine' conv_val ?S ?ka ?kb ?_; (case S => walk_at "mk_sit"); (case ka => k_asm); (case kb => k_asm); k_whole); intro h' t' F' N'))
section
variable {w : World} {A A₀ : Around} {E : Value → Shared → Prop} {s : Shared} {h₀ base : Heap} {env : Env} {outer : List Env} {L x l : Addr} {m mg mb : Str → Option Value} {news : List (Addr × Obj)}
   {p : Program} {loose : List Str} {mean : ExcName → Option Value} {Q : Value → Shared → Prop} {nm : Str} {tk : Tok} {its : Array Value} {n : Nat} {ps : List (Str × Value)}
theorem get_all_spec (S : Sit w A A₀ base h₀ env outer L m p loose mean mg mb news s.heap 10) (hT : Tab w news x l) (hl : (l, listOf its n) ∈ news) (hsz : its.size ≤ 1000) (P : PairsN news its.toList ps)
   (hsm : nm.length ≤ 1000) (hclean : ctlIn isCtlN (Txt.lower nm).cps = false)
   (h : ∀ D h' t' ys k, Fr h₀ L h' m → News h₀ L h' ((D, listOf ys k) :: news) → (∀ q ∈ news, q.1 ≠ D) → ys.toList = (ps.filter fun q => Txt.lower q.1 == Txt.lower nm).map (·.2) → Q (.ref D) {s with heap := h', toks := t'}) :
   wpAny (model pg w) A (call (.ref 121) [.ref x, .str nm tk]) Q E s := by
  obtain ⟨KX, T, B, F, N, hA, hf, hke, hroom, hh⟩ := S
  obtain ⟨d, tl, hx, hdd⟩ := hT.at_
  have hlen : (Txt.lower nm).length ≤ 2 ^ 24 := by have := len_lower nm; omega
  refine wpAny_call ?_
  k_enter
  k_steps
  refine hold_elim ?_
  refine' ListComp_get (l := l) (its := its) (n := n) (ps := ps) (key := Txt.lower nm) ?hh ?F ?N ?hl ?hsz P ?hn0 ?hcn ?hoc ?hclos ?hcell ?hkind ?hnames ?hx ?hk ?hv ?hn ?hcl ?hcall ?hs ?hiter ?hQ
  case F => k_asm
  case N => k_asm
  case hl => k_mem
  case hsz => exact Nat.le_trans hsz (by decide)
  case hclos => with_unfolding_all rfl
  case hcell => decide
  case hkind => rfl
  case hnames => decide
  case hx => rfl
  case hk => exact fun _ => rfl
  case hv => exact fun _ => rfl
  case hn => exact fun _ => rfl
  case hcl => rfl
  case hcall => exact fun _ => rfl
  case hs => exact fun _ => rfl
  case hh => exact hh
  case hn0 => exact fun p hp => List.mem_cons_of_mem _ hp
  case hcn => exact List.mem_cons_self
  case hoc => assumption
  case hiter =>
    intro Q' hQ'
    k_steps
    exact hQ' _
  case hQ =>
    intro D h' tk k ys F' N' hne hys
    k_steps
    exact h D _ _ ys k (by assumption) (news_mono (by assumption) fun q hq => (List.mem_cons.mp hq).elim (fun e => List.mem_cons.mpr (.inl e)) fun e => .tail _ (.tail _ e)) (fun q hq => hne q (.tail _ hq)) hys
theorem add_str {v : Str} {tv : Tok} (S : Sit w A A₀ base h₀ env outer L m p loose mean mg mb news s.heap 10) (hT : Tab w news x l) (hl : (l, listOf its n) ∈ news) (hsz : its.size ≤ 1000) (P : PairsN news its.toList ps)
   (hsm : nm.length ≤ 1000) (hclean : ctlIn isCtlN nm.cps = false) (hvm : v.length ≤ 1000) (hvc : ctlIn isCtlV v.cps = false)
   (h : ∀ h' t' t tk' ty, Fr h₀ L h' m → News h₀ L h' (upd l (listOf (its.push (.ref t)) (n + 1)) ((t, pairObj nm tk' (.str v ty)) :: news)) → PairsN (upd l (listOf (its.push (.ref t)) (n + 1)) ((t, pairObj nm tk' (.str v ty)) :: news)) (its.push (.ref t)).toList (ps ++ [(nm, .str v ty)]) → Q .none {s with heap := h', toks := t'}) :
   wpAny (model pg w) A (call (.ref 179) [.ref x, .str nm tk, .str v tv]) Q E s := by
  obtain ⟨KX, T, B, F, N, hA, hf, hke, hroom, hh⟩ := S
  obtain ⟨d, tl, hx, hdd⟩ := hT.at_
  have hlen : nm.length ≤ 2 ^ 24 := by omega
  have hlenv : v.length ≤ 2 ^ 24 := by omega
  refine wpAny_call ?_
  walk_at "enter_more"
  k_steps
  refine hold_elim ?_
  rename Obj.IsDictOf .. => hs'
  refine' for_items_exec (KeepJ _ _) ?hh ?F ?N ?hbase ?hline ?ho ?hlo hs' ?hJ ?hl ?j0 ?turn ?done
  case hh => exact hh
  case F => k_asm
  case N => k_asm
  case j0 => exact KeepJ.start
  case hbase => rfl
  case hline => rfl
  case hlo => assumption
  case hJ => exact KeepJ.mono
  case hl => exact fun i m n h => h.2 _ (by k_mem)
  case ho => intro Q' hQ'; k_steps; exact hQ'
  case turn => intro i k v key t m₁ n₁ h tk it e; simp at e
  case done =>
    rintro m₁ n₁ h₂ tk₂ ⟨rfl, hsub⟩ F' N'
    have N' := news_mono N' hsub
    clear hsub
    k_steps
    refine h _ _ _ _ _ (by assumption) (news_mono (by assumption) (upd_sub fun p hp => (List.mem_cons.mp hp).elim (fun e => List.mem_cons.mpr (.inl e)) fun e => .tail _ (.tail _ (.tail _ e)))) (add_end (by assumption) (fun p hp => .tail _ (.tail _ hp)) hl P hsm)
end
end Mine
namespace Mine
local macro_rules | `(tactic| k_room) => `(tactic| first | ((try simp only [depth_under_make, depth_under_kw, depth_in1, depth_deeper, depth_caller]); omega) | decide)
local macro_rules | `(tactic| k_enter) => `(tactic| (refine' code_def ?k1 ?k2 ?k3 ?k4 ?k5 ?kA ?kF ?kK ?k6 ?k7 ?k8 ?k9 ?kB ?_ ?c2 ?c3 ?c4 ?c5; (case k1 => k_asm); (case k2 => k_asm); (case k3 => k_asm); (case k4 => k_asm); (case k5 => k_asm); (case kA => assumption); (case kF => assumption); (case kK => assumption);  (case k6 => k_is); (case k7 => k_is); (case k8 => k_room); (case k9 => first | exact BindsTo.of_eq rfl | exact binds_K (by k_in) rfl (by k_is) rfl rfl rfl | fail "k_enter: no rule for these arguments"); (case c5 => decide); (case kB => exact locs rfl); (case c2 => exact rfl); (case c3 => exact rfl); (case c4 => exact rfl); k_whole; intro g' L' h' FG' F' N' B' X' T'; (try dsimp only); (try k_lift B'); (try k_fold)))
local macro_rules | `(tactic| k_enter) => `(tactic| (refine' code_defC ?k1 ?k2 ?k3 ?k4 ?k5 ?kA ?kF ?kK ?k6 ?k7 ?k8 ?k9 ?kB ?kD ?_ ?c2 ?c3 ?c4; (case k1 => k_asm); (case k2 => k_asm); (case k3 => k_asm); (case k4 => k_asm); (case k5 => k_asm); (case kA => assumption); (case kF => assumption); (case kK => assumption); (case k6 => k_is); (case k7 => k_is); (case k8 => k_room); (case k9 => first | exact BindsTo.of_eq rfl | exact binds_K (by k_in) rfl (by k_is) rfl rfl rfl | fail "k_enter: no rule for these arguments"); (case kB => exact rfl); (case kD => decide +kernel); (case c2 => exact rfl); (case c3 => exact rfl); (case c4 => exact rfl); k_whole; intro g' L' h' tk' cells' FG' F' N' Y' B' X' T' l1; k_cells Y'; (try simp only [List.cons_append, List.nil_append] at N'); (try dsimp only); (try k_lift B'); (try k_fold)))
local macro_rules | `(tactic| k_mem) => `(tactic| first | assumption | exact List.Mem.head _ | (refine' List.Mem.tail _ ?_; k_mem))
local macro_rules | `(tactic| k_all) => `(tactic| exact all_ne_of_lt (by assumption) (by first | exact Nat.le_refl _ | exact Nat.le_succ _ | omega))
local macro_rules | `(tactic| walk_at "call builtin:str.lower") => `(tactic| (refine PyProof.Rows.SCL.lower (by omega) ?_; intro _))
local macro_rules | `(tactic| walk_at "eval ListComp") => `(tactic| refine hold_intro ?_)
local macro_rules | `(tactic| walk_at "eval Slice none none none") => `(tactic| (refine slice_K (by assumption) (by assumption) ?_; intro sl' h' F' N'; (try k_sweep)))
local macro_rules | `(tactic| walk_at "setItem ref ref ref") => `(tactic| refine hold_intro ?_)
local macro_rules | `(tactic| walk_at "exec Assign cons ListComp") => `(tactic| ((with_reducible show wpAny _ _ (exec (Stmt.Assign [Expr.Subscript _ _ _] _ _) _) _ _ _); refine wpAny_Assign_Subscript ?_))
local macro_rules | `(tactic| walk_at "call builtin:len") => `(tactic| (refine' len_L ?N ?hl ?hs ?_; (case N => k_asm); (case hl => k_mem); (case hs => omega); intro t' tk'))
local macro_rules | `(tactic| walk_at "subscriptTail Name Slice ref ref") => `(tactic| ((with_reducible show wpAny _ _ (subscriptTail _ _ (Value.ref _) (Value.ref _)) _ _ _); refine' copy_L ?F ?N ?hl ?hs ?hz ?_ ?he; (case F => k_asm); (case N => k_asm); (case hl => k_mem); (case hs => exact List.Mem.head _); (case hz => rw [sizeLine_eq]; omega); (case he => with_unfolding_all rfl); intro D' h' F' N' l1'; (try k_sweep)))
local macro_rules | `(tactic| walk_at "enter_more") => `(tactic| (refine' kp_more ?k1 ?k2 ?k3 ?k4 ?k5 ?kA ?kF ?kK ?k6 ?k7 ?k8 ?kX ?kM ?kN ?kD ?kR ?kP ?kT ?kB ?_ ?c2 ?c3 ?c4 ?c5; (case kA => assumption); (case kF => assumption); (case kK => assumption); (case k1 => k_asm); (case k2 => k_asm); (case k3 => k_asm); (case k4 => k_asm); (case k5 => k_asm); (case k6 => k_is); (case k7 => k_is); (case k8 => k_room); (case kX => kp_lit); (case kM => exact rfl); (case kN => exact rfl); (case kD => kp_flats); (case kR => exact rfl); (case kP => exact rfl); (case kT => exact fun _ => rfl); (case kB => exact fun _ => locs rfl); (case c5 => decide); (case c2 => exact rfl); (case c3 => exact rfl); (case c4 => exact rfl); k_whole; intro D' o' g' L' h' tk' l1 lo' hs' fs' FG' F' N' B' X' T'; (try dsimp only); (try k_lift B'); (try k_fold)))
local macro_rules | `(tactic| walk_at "exec For Tuple Name") => `(tactic| refine hold_intro ?_)
local macro_rules | `(tactic| walk_at "exec For Tuple Call") => `(tactic| refine hold_intro ?_)
local macro_rules | `(tactic| walk_at "exec For Tuple Call cons nil") => `(tactic| refine hold_intro ?_)
local macro_rules | `(tactic| walk_at "exec For Tuple Name cons nil") => `(tactic| refine hold_intro ?_)
local macro_rules | `(tactic| walk_at "call builtin:list.append") => `(tactic| (refine' append_L ?F ?N ?hl ?_ ?hz; (case F => k_asm); (case N => k_asm); (case hl => k_mem); (case hz => (rw [sizeLine_eq]; omega)); intro h' F' N'))
local macro_rules | `(tactic| walk_at "mk_sit") => `(tactic| (refine' Sit.mk ?KX ?T ?B ?F ?N ?hA ?hf ?hke ?hroom ?hh; (case KX => k_asm); (case T => k_asm); (case B => k_asm); (case F => k_asm); (case N => k_asm); (case hA => first | with_reducible assumption | exact Around.frames_deeper (Below.stack (by with_reducible assumption)) | rfl); (case hf => first | with_reducible assumption | rfl); (case hke => first | with_reducible assumption | rfl); (case hroom => k_room); (case hh => first | with_reducible assumption | exact handled_deeper (by with_reducible assumption) | assumption | rfl)))
local macro_rules | `(tactic| walk_at "call ref") => `(tactic| ((with_reducible show wpAny _ _ (call (Value.ref 83) [_, Value.str _ _] (List.zip _ [Value.bool true])) _ _ _); k_dflt (refine' conv_name ?S ?ka ?kb ?_; (case S => walk_at "mk_sit"); (case ka => k_asm); (case kb => k_asm); k_whole); intro h' t' F' N'))
local macro_rules | `(tactic| walk_at "call ref") => `(tactic| ((with_reducible show wpAny _ _ (call (Value.ref 83) [_, Value.str _ _] (List.zip _ [Value.bool false])) _ _ _); k_dflt (refine' conv_val ?S ?ka ?kb ?_; (case S => walk_at "mk_sit"); (case ka => k_asm); (case kb => k_asm); k_whole); intro h' t' F' N'))
/-- the table x over the list l, which holds the pairs ps -/
structure Box (w : World) (news : List (Addr × Obj)) (x l d : Addr) (tl : Tok) (its : Array Value) (n : Nat) (ps : List (Str × Value)) : Prop where
  hx : (x, instObj 182 d) ∈ news
  hd : (d, dictOf [⟨PyData.keyHash w.params (Str.ofString "_headers"), .str (Str.ofString "_headers") tl, .ref l⟩] 1) ∈ news
  hl : (l, listOf its n) ∈ news
  P : PairsN news its.toList ps
  small : ps.length ≤ 1000
section
variable {w : World} {A A₀ : Around} {E : Value → Shared → Prop} {s : Shared} {h₀ h base : Heap} {env : Env} {outer : List Env} {L x l t d : Addr} {tl : Tok} {m mg mb : Str → Option Value} {news news' : List (Addr × Obj)}
   {p : Program} {loose : List Str} {mean : ExcName → Option Value} {Q : Value → Shared → Prop} {nm : Str} {tk : Tok} {its : Array Value} {n : Nat} {ps : List (Str × Value)}
theorem Box.tab (B : Box w news x l d tl its n ps) : Tab w news x l := ⟨_, _, B.hx, B.hd⟩
theorem Box.size (B : Box w news x l d tl its n ps) : its.size = ps.length := by
  have := B.P.length
  rw [Array.length_toList] at this
  exact this
theorem Box.small' (B : Box w news x l d tl its n ps) : its.size ≤ 1000 := B.size ▸ B.small
theorem Box.mono (B : Box w news x l d tl its n ps) (k : ∀ p ∈ news, p ∈ news') : Box w news' x l d tl its n ps := ⟨k _ B.hx, k _ B.hd, k _ B.hl, B.P.mono k, B.small⟩
theorem Box.tail {e : Addr × Obj} (B : Box w news x l d tl its n ps) : Box w (e :: news) x l d tl its n ps := B.mono fun _ h => .tail _ h
theorem Box.kept {a : Array Value} {b : Nat} (B : Box w news x l d tl its n ps) (N : News h₀ L h news) (ht : (t, listOf a b) ∈ news) (hne : l ≠ t) (K : Kept t news news') : Box w news' x l d tl its n ps := by
  refine ⟨K _ B.hx (news_ne N B.hx ht ?_), K _ B.hd (news_ne N B.hd ht ?_), K _ B.hl hne, ?_, B.small⟩
  · show Value.ref 182 ≠ Value.type "list"; decide
  · show Value.type "dict" ≠ Value.type "list"; decide
  · exact Paired.imp B.P fun v q ⟨t', tk, e, hm, hs⟩ => ⟨t', tk, e, K _ hm (news_ne N hm ht (by show Value.type "tuple" ≠ Value.type "list"; decide)), hs⟩
theorem Box.noIter (B : Box w news x l d tl its n ps) (k : ∀ p ∈ news, isIter p.2 = false → p ∈ news') : Box w news' x l d tl its n ps := by
  refine ⟨k _ B.hx ?_, k _ B.hd ?_, k _ B.hl ?_, ?_, B.small⟩
  · rfl
  · show iterNames.contains "dict" = false; decide
  · show iterNames.contains "list" = false; decide
  · exact Paired.imp B.P fun v q ⟨t', tk, e, hm, hs⟩ => ⟨t', tk, e, k _ hm (by show iterNames.contains "tuple" = false; decide), hs⟩
theorem Box.upd_self {ys : Array Value} {n' : Nat} {ps' : List (Str × Value)} (B : Box w news x l d tl its n ps) (N : News h₀ L h news) (P : PairsN (upd l (listOf ys n') news) ys.toList ps') (hs : ps'.length ≤ 1000) : Box w (upd l (listOf ys n') news) x l d tl ys n' ps' := by
  refine ⟨mem_upd B.hx (news_ne N B.hx B.hl ?_), mem_upd B.hd (news_ne N B.hd B.hl ?_), mem_upd_self B.hl, P, hs⟩
  · show Value.ref 182 ≠ Value.type "list"; decide
  · show Value.type "dict" ≠ Value.type "list"; decide
theorem box_del (S : Sit w A A₀ base h₀ env outer L m p loose mean mg mb news s.heap 10) (B : Box w news x l d tl its n ps) (hsm : nm.length ≤ 1000) (hclean : ctlIn isCtlN (Txt.lower nm).cps = false)
   (h : ∀ h' t' news' its' n', Fr h₀ L h' m → News h₀ L h' news' → Kept l news news' → Box w news' x l d tl its' n' (ps.filter fun q => !(Txt.lower q.1 == Txt.lower nm)) → Q .none {s with heap := h', toks := t'}) :
   wpAny (model pg w) A (call (.ref 102) [.ref x, .str nm tk]) Q E s :=
  del_spec S B.tab B.hl B.small' B.P hsm hclean fun h' t' ys n' F' N' P' _ => h h' t' _ ys n' F' N' Kept.upd (B.upd_self S.N P' (Nat.le_trans (List.length_filter_le _ _) B.small))
theorem Box.upd_self' {e : Addr × Obj} {ys : Array Value} {n' : Nat} {ps' : List (Str × Value)} (B : Box w news x l d tl its n ps) (N : News h₀ L h news) (P : PairsN (upd l (listOf ys n') (e :: news)) ys.toList ps') (hs : ps'.length ≤ 1000) : Box w (upd l (listOf ys n') (e :: news)) x l d tl ys n' ps' := by
  refine ⟨mem_upd (.tail _ B.hx) (news_ne N B.hx B.hl ?_), mem_upd (.tail _ B.hd) (news_ne N B.hd B.hl ?_), mem_upd_self (.tail _ B.hl), P, hs⟩
  · show Value.ref 182 ≠ Value.type "list"; decide
  · show Value.type "dict" ≠ Value.type "list"; decide
theorem box_append {v : Value} {ta : Addr} {ta' : Tok} (F : Fr h₀ L s.heap m) (N : News h₀ L s.heap news) (B : Box w news x l d tl its n ps) (ht : (ta, pairObj nm ta' v) ∈ news) (hsm : nm.length ≤ 1000) (hs : ps.length < 1000)
   (h : ∀ h' news', Fr h₀ L h' m → News h₀ L h' news' → Kept l news news' → Box w news' x l d tl (its.push (.ref ta)) (n + 1) (ps ++ [(nm, v)]) → Q .none {s with heap := h'}) :
   wpAny (model pg w) A (call (.builtin "list.append") [.ref l, .ref ta]) Q E s := by
  refine append_L F N B.hl (fun h' F' N' => h h' _ F' N' Kept.upd (B.upd_self N ?_ (by rw [List.length_append]; exact hs))) (by rw [sizeLine_eq]; have := B.small'; omega)
  have P := (B.P.upd (o' := listOf (its.push (.ref ta)) (n + 1)) N B.hl (by show Value.type "list" ≠ Value.type "tuple"; decide)).snoc (mem_upd ht (news_ne N ht B.hl (by show Value.type "tuple" ≠ Value.type "list"; decide))) hsm
  rw [Array.toList_push]
  exact P
theorem box_len (S : Sit w A A₀ base h₀ env outer L m p loose mean mg mb news s.heap 10) (B : Box w news x l d tl its n ps)
   (h : ∀ h' t' tk, Fr h₀ L h' m → News h₀ L h' news → Q (.int ps.length tk) {s with heap := h', toks := t'}) :
   wpAny (model pg w) A (call (.builtin "len") [.ref x]) Q E s :=
  len_spec S B.tab B.hl B.small' fun h' t' tk F N => B.size ▸ h h' t' tk F N
theorem box_get (S : Sit w A A₀ base h₀ env outer L m p loose mean mg mb news s.heap 10) (B : Box w news x l d tl its n ps) (hsm : nm.length ≤ 1000) (hclean : ctlIn isCtlN (Txt.lower nm).cps = false)
   (h : ∀ D h' t' ys k, Fr h₀ L h' m → News h₀ L h' ((D, listOf ys k) :: news) → (∀ q ∈ news, q.1 ≠ D) → ys.toList = (ps.filter fun q => Txt.lower q.1 == Txt.lower nm).map (·.2) → Q (.ref D) {s with heap := h', toks := t'}) :
   wpAny (model pg w) A (call (.ref 121) [.ref x, .str nm tk]) Q E s := get_all_spec S B.tab B.hl B.small' B.P hsm hclean h
theorem box_items (S : Sit w A A₀ base h₀ env outer L m p loose mean mg mb news s.heap 10) (B : Box w news x l d tl its n ps)
   (h : ∀ D h' t', Fr h₀ L h' m → News h₀ L h' ((D, listOf its 0) :: news) → (∀ q ∈ news, q.1 < D) → Q (.ref D) {s with heap := h', toks := t'}) :
   wpAny (model pg w) A (call (.ref 146) [.ref x]) Q E s := items_spec S B.tab B.hl B.small' h
theorem box_none (S : Sit w A A₀ base h₀ env outer L m p loose mean mg mb news s.heap 10) (B : Box w news x l d tl its n ps) (hsm : nm.length ≤ 1000) (hclean : ctlIn isCtlN nm.cps = false) (hs : ps.length < 1000)
   (h : ∀ h' t' news' its' n' ty, Fr h₀ L h' m → News h₀ L h' news' → Kept l news news' → Box w news' x l d tl its' n' (ps ++ [(nm, .str Str.empty ty)]) → Q .none {s with heap := h', toks := t'}) :
   wpAny (model pg w) A (call (.ref 179) [.ref x, .str nm tk, .none]) Q E s :=
  add_none S B.tab B.hl B.small' B.P hsm hclean fun h' t' t tk' ty F N P => h h' t' _ _ _ ty F N (fun p hp hne => mem_upd (.tail _ hp) hne) (Box.upd_self' B S.N P (by rw [List.length_append]; exact hs))
theorem box_str {v : Str} {tv : Tok} (S : Sit w A A₀ base h₀ env outer L m p loose mean mg mb news s.heap 10) (B : Box w news x l d tl its n ps) (hsm : nm.length ≤ 1000) (hclean : ctlIn isCtlN nm.cps = false) (hvm : v.length ≤ 1000) (hvc : ctlIn isCtlV v.cps = false) (hs : ps.length < 1000)
   (h : ∀ h' t' news' its' n' ty, Fr h₀ L h' m → News h₀ L h' news' → Kept l news news' → Box w news' x l d tl its' n' (ps ++ [(nm, .str v ty)]) → Q .none {s with heap := h', toks := t'}) :
   wpAny (model pg w) A (call (.ref 179) [.ref x, .str nm tk, .str v tv]) Q E s :=
  add_str S B.tab B.hl B.small' B.P hsm hclean hvm hvc fun h' t' t tk' ty F N P => h h' t' _ _ _ ty F N (fun p hp hne => mem_upd (.tail _ hp) hne) (Box.upd_self' B S.N P (by rw [List.length_append]; exact hs))
theorem box_tell {a : Array Value} {b : Nat} {v : Value} (F : Fr h₀ L s.heap m) (N : News h₀ L s.heap news) (B : Box w news x l d tl its n ps) (ht : (t, listOf a b) ∈ news) (hne : l ≠ t) (hsz : a.size ≤ 1000)
   (h : ∀ h' news', Fr h₀ L h' m → News h₀ L h' news' → Kept t news news' → (t, listOf (a.push v) (b + 1)) ∈ news' → Box w news' x l d tl its n ps → Q .none {s with heap := h'}) :
   wpAny (model pg w) A (call (.builtin "list.append") [.ref t, v]) Q E s :=
  append_K F N ht (by rw [sizeLine_eq]; omega) fun h' n' F' N' K' M' => h h' n' F' N' K' M' (B.kept N ht hne K')
end
/-- a loop's word: the frame outside the names S, the ledger outside the table's list and the told one, the table's pairs and the told numbers -/
def JTab (w : World) (x l d t : Addr) (tl : Tok) (S : List Str) (M : Str → Option Value) (n₀ : List (Addr × Obj)) (R : Nat → List (Str × Value) → List Int → Prop) : Nat → (Str → Option Value) → List (Addr × Obj) → Prop := fun i m' n' =>
  Agree S M m' ∧ Kept2 l t n₀ n' ∧ ∃ ps ts, R i ps ts ∧ (∃ its n, Box w n' x l d tl its n ps) ∧ ∃ a k, (t, listOf a k) ∈ n' ∧ IntsAre a.toList ts
theorem JTab.mono {w : World} {x l d t : Addr} {tl : Tok} {S : List Str} {M : Str → Option Value} {n₀ : List (Addr × Obj)} {R : Nat → List (Str × Value) → List Int → Prop} (i : Nat) (m : Str → Option Value) (n n' : List (Addr × Obj)) (I : Addr) (h1 : ∀ p ∈ n₀, p.1 ≠ I) (h2 : ∀ p ∈ n, isIter p.2 = false → p.1 ≠ I) (h3 : JTab w x l d t tl S M n₀ R i m n) (h4 : ∀ p ∈ n, p.1 ≠ I → p ∈ n') : JTab w x l d t tl S M n₀ R i m n' := by
  obtain ⟨hA, hK, ps, ts, hR, ⟨its, k, B⟩, a, k', ht, hI⟩ := h3
  exact ⟨hA, hK.iter h1 h4, ps, ts, hR, ⟨its, k, B.noIter fun p hp hi => h4 p hp (h2 p hp hi)⟩, a, k', h4 _ ht (h2 _ ht isIter_list), hI⟩
section
variable {w : World} {A : Around} {E : Value → Shared → Prop} {s : Shared} {h₀ : Heap} {env : Env} {x l t d ln : Addr} {tl : Tok} {m : Str → Option Value} {news : List (Addr × Obj)} {its nits a₀ : Array Value} {n nn k₀ : Nat} {ps : List (Str × Value)} {ts : List Int} {target : Expr} {body : List Stmt} {Q : Flow → Shared → Prop}
theorem loop_names (S : List Str) (R : Nat → List (Str × Value) → List Int → Prop)
    (hh : A.handled = none) (F : Fr h₀ env.locals s.heap m) (N : News h₀ env.locals s.heap news) (hln : (ln, listOf nits nn) ∈ news) (h1 : ln ≠ l) (h3 : ln ≠ t)
    (B : Box w news x l d tl its n ps) (ht : (t, listOf a₀ k₀) ∈ news) (hI : IntsAre a₀.toList ts) (hR : R 0 ps ts)
    (turn : ∀ i v u n₁ h tk it ps' ts' its' n' a' k', nits[i]? = some v → R i ps' ts' → Box w n₁ x l d tl its' n' ps' → (t, listOf a' k') ∈ n₁ → IntsAre a'.toList ts' → Kept2 l t news n₁ → it ∈ n₁ → it.1 ≠ l → it.1 ≠ t → Fr h₀ env.locals h (overL S u m) → News h₀ env.locals h n₁ →
      wpAny (model pg w) A (assign target env v) (fun _ s₂ => wpAny (model pg w) A (execs body env) (TurnEnd h₀ env.locals s it (JTab w x l d t tl S m news R (i + 1)) Q) (notedBy (model pg w) A env fun e s' => cameBackBy (model pg w) A env E e s') s₂)
        (notedBy (model pg w) A env fun e s' => cameBackBy (model pg w) A env E e s') { s with heap := h, toks := tk })
    (done : ∀ u n₁ h tk ps' ts' its' n' a' k', R nits.size ps' ts' → Box w n₁ x l d tl its' n' ps' → (t, listOf a' k') ∈ n₁ → IntsAre a'.toList ts' → Kept2 l t news n₁ → Fr h₀ env.locals h (overL S u m) → News h₀ env.locals h n₁ → Q .next { s with heap := h, toks := tk }) :
    wpAny (model pg w) A (pyIter (.ref ln)) (fun it s₂ => codeAny (model pg w) A (.forLoop target it body [] env) (fun r s' => match r with | .ok f => Q f s' | .error e => cameBackBy (model pg w) A env E e s') s₂) E s := by
  refine for_list (l := ln) (its := nits) (n := nn) (JTab w x l d t tl S m news R) hh F N JTab.mono (fun i m' n' J => J.2.1.mem hln h1 h3) ⟨Agree.start, Kept2.start, ps, ts, hR, ⟨_, _, B⟩, _, _, ht, hI⟩ ?_ ?_
  · rintro i v m₁ n₁ h tk it e ⟨hA, hK, ps', ts', hR', ⟨its', n', B'⟩, a', k', ht', hI'⟩ him hit F' N'
    obtain ⟨u, rfl⟩ : ∃ u, m₁ = overL S u m := ⟨_, hA.over⟩
    exact turn i v u n₁ h tk it ps' ts' its' n' a' k' e hR' B' ht' hI' hK hit (iter_ne N' him hit B'.hl isIter_list) (iter_ne N' him hit ht' isIter_list) F' N'
  · rintro m₁ n₁ h tk ⟨hA, hK, ps', ts', hR', ⟨its', n', B'⟩, a', k', ht', hI'⟩ F' N'
    obtain ⟨u, rfl⟩ : ∃ u, m₁ = overL S u m := ⟨_, hA.over⟩
    exact done u n₁ h tk ps' ts' its' n' a' k' hR' B' ht' hI' hK F' N'
theorem loop_range {r : Addr} {a b : Int} {tu tv tw : Tok} {N₁ : Nat} (S : List Str) (R : Nat → List (Str × Value) → List Int → Prop)
    (hh : A.handled = none) (F : Fr h₀ env.locals s.heap m) (N : News h₀ env.locals s.heap news)
    (hr : IsRange s.heap r a b 1 tu tv tw) (hsm : Builtin.Range.small a b 1 = true) (hn : Builtin.Range.rangeSize a b 1 = ((N₁ : Nat) : Int)) (htg : ∀ it v, letOwnedTupleGo target it v = pure ())
    (B : Box w news x l d tl its n ps) (ht : (t, listOf a₀ k₀) ∈ news) (hI : IntsAre a₀.toList ts) (hR : R 0 ps ts)
    (turn : ∀ i tv u n₁ h tk it ps' ts' its' n' a' k', i < N₁ → R i ps' ts' → Box w n₁ x l d tl its' n' ps' → (t, listOf a' k') ∈ n₁ → IntsAre a'.toList ts' → Kept2 l t news n₁ → it ∈ n₁ → it.1 ≠ l → it.1 ≠ t → Fr h₀ env.locals h (overL S u m) → News h₀ env.locals h n₁ →
      wpAny (model pg w) A (assign target env (.int (a + (i : Nat)) tv)) (fun _ s₂ => wpAny (model pg w) A (execs body env) (TurnEnd h₀ env.locals s it (JTab w x l d t tl S m news R (i + 1)) Q) (notedBy (model pg w) A env fun e s' => cameBackBy (model pg w) A env E e s') s₂)
        (notedBy (model pg w) A env fun e s' => cameBackBy (model pg w) A env E e s') { s with heap := h, toks := tk })
    (done : ∀ u n₁ h tk ps' ts' its' n' a' k', R N₁ ps' ts' → Box w n₁ x l d tl its' n' ps' → (t, listOf a' k') ∈ n₁ → IntsAre a'.toList ts' → Kept2 l t news n₁ → Fr h₀ env.locals h (overL S u m) → News h₀ env.locals h n₁ → Q .next { s with heap := h, toks := tk }) :
    wpAny (model pg w) A (pyIter (.ref r)) (fun it s₂ => codeAny (model pg w) A (.forLoop target it body [] env) (fun r s' => match r with | .ok f => Q f s' | .error e => cameBackBy (model pg w) A env E e s') s₂) E s := by
  refine for_range (JTab w x l d t tl S m news R) hh F N hr hsm hn htg JTab.mono ⟨Agree.start, Kept2.start, ps, ts, hR, ⟨_, _, B⟩, _, _, ht, hI⟩ ?_ ?_
  · rintro i v m₁ n₁ h tk it e ⟨hA, hK, ps', ts', hR', ⟨its', n', B'⟩, a', k', ht', hI'⟩ him hit F' N'
    obtain ⟨u, rfl⟩ : ∃ u, m₁ = overL S u m := ⟨_, hA.over⟩
    exact turn i v u n₁ h tk it ps' ts' its' n' a' k' e hR' B' ht' hI' hK hit (iter_ne N' him hit B'.hl isIter_list) (iter_ne N' him hit ht' isIter_list) F' N'
  · rintro m₁ n₁ h tk ⟨hA, hK, ps', ts', hR', ⟨its', n', B'⟩, a', k', ht', hI'⟩ F' N'
    obtain ⟨u, rfl⟩ : ∃ u, m₁ = overL S u m := ⟨_, hA.over⟩
    exact done u n₁ h tk ps' ts' its' n' a' k' hR' B' ht' hI' hK F' N'
end
def nmL : List Str := [Str.ofString "a", Str.ofString "ab", Str.ofString "b", Str.ofString "", Str.ofString "c"]
def Good (ps : List (Str × Value)) : Prop := ∀ q ∈ ps, ctlIn isCtlN q.1.cps = false ∧ ∃ y ty, q.2 = .str y ty ∧ ctlIn isCtlV y.cps = false ∧ y.length ≤ 1000
/-- as Good, but a value may be None -/
def GoodO (ps : List (Str × Value)) : Prop := ∀ q ∈ ps, ctlIn isCtlN q.1.cps = false ∧ (q.2 = .none ∨ ∃ y ty, q.2 = .str y ty ∧ ctlIn isCtlV y.cps = false ∧ y.length ≤ 1000)
def cut (ps : List (Str × Value)) (a : Str) : List (Str × Value) := ps.filter fun q => !(Txt.lower q.1 == a)
def stepO (q : List (Str × Value) × List Int) (a : Str) : List (Str × Value) × List Int := (cut q.1 a, q.2 ++ [(q.1.length : Int) - ((cut q.1 a).length : Int)])
theorem strs_at {vs : List Value} {ws : List Str} (h : StrsAre vs ws) : ∀ (i : Nat) v, vs[i]? = some v → ∃ a t, v = .str a t ∧ ws[i]? = some a := by
  induction h with
  | nil => intro i v e; simp at e
  | cons y t _ ih =>
    intro i v e
    cases i with
    | zero => cases e; exact ⟨_, _, rfl, rfl⟩
    | succ j => exact ih j v e
theorem take_step {α β : Type} {f : β → α → β} {b : β} {l : List α} {i : Nat} {a : α} (h : l[i]? = some a) : (l.take (i + 1)).foldl f b = f ((l.take i).foldl f b) a := by
  rw [List.take_add_one, h, List.foldl_append]
  rfl
theorem nm_facts : ∀ a ∈ nmL, Txt.lower a = a ∧ a.length ≤ 1000 ∧ ctlIn isCtlN (Txt.lower a).cps = false := by decide +kernel
theorem nm_facts2 : ∀ a ∈ nmL, ctlIn isCtlN a.cps = false ∧ Txt.lower (Txt.upper a) = a ∧ (Txt.upper a).length ≤ 1000 ∧ ctlIn isCtlN (Txt.lower (Txt.upper a)).cps = false ∧ ctlIn isCtlN (Txt.upper a).cps = false := by decide +kernel
def cnt (ps : List (Str × Value)) (a : Str) : Nat := (ps.filter fun q => Txt.lower q.1 == a).length
def lossRow (c : Nat → Int) (k j : Nat) : List Int := (List.range j).map fun i => c i + c k
def lossTo (c : Nat → Int) : Nat → List Int
  | 0 => []
  | k + 1 => lossTo c k ++ lossRow c k k
theorem lossRow_succ (c : Nat → Int) (k j : Nat) : lossRow c k (j + 1) = lossRow c k j ++ [c j + c k] := by simp [lossRow, List.range_succ]
def Same (ps ps' : List (Str × Value)) : Prop := GoodO ps' ∧ ps'.length = ps.length ∧ ∀ a ∈ nmL, cnt ps' a = cnt ps a
theorem fresh_ne {a D : Addr} {o : Obj} {n : List (Addr × Obj)} (h : ∀ q ∈ n, q.1 ≠ D) (hm : (a, o) ∈ n) : a ≠ D := h _ hm
theorem nm_item {w : World} {A : Around} {E : Value → Shared → Prop} {s : Shared} {h₀ : Heap} {L ln : Addr} {news : List (Addr × Obj)} {nits : Array Value} {nn i : Nat} {a : Str} {value slice : Expr} {u : Tok} {Q : Value → Shared → Prop} (N : News h₀ L s.heap news) (hl : (ln, listOf nits nn) ∈ news) (hns : StrsAre nits.toList nmL) (ha : nmL[i]? = some a)
    (h : ∀ t', Q (.str a t') s) (hs : subscripted slice false (.ref ln) (.int i u) = operate [.ref ln, .int i u] (getItem (.ref ln) (.int i u)) := by with_unfolding_all rfl) (hg : ∀ r, letTemporaryGo value (.ref ln) r = pure () := by intro _; with_unfolding_all rfl) :
    wpAny (model pg w) A (subscriptTail value slice (.ref ln) (.int (i : Nat) u)) Q E s := by
  have hi : i < nmL.length := by
    rcases Nat.lt_or_ge i nmL.length with h | h
    · exact h
    · rw [List.getElem?_eq_none h] at ha; cases ha
  have hi5 : i < 5 := hi
  obtain ⟨t, e⟩ : ∃ t, nits.toList[i]? = some (.str a t) := by
    clear h hl hs hg hi5
    generalize nits.toList = vs at hns
    revert ha hi
    generalize nmL = ws at hns
    induction hns generalizing i with
    | nil => intro ha; simp at ha
    | cons y t _ ih =>
      intro ha hi
      cases i with
      | zero => cases ha; exact ⟨t, rfl⟩
      | succ j => exact ih ha (Nat.lt_of_succ_lt_succ hi)
  exact item_listL (l := nits.toList) (x := .str a t) (kso_isList N hl rfl) (by omega) (by omega) (by exact e) (h t) hs hg
theorem len_foldl (l : List Str) (b : List (Str × Value) × List Int) : (l.foldl stepO b).2.length = b.2.length + l.length := by
  induction l generalizing b with
  | nil => rfl
  | cons a r ih => rw [List.foldl_cons, ih]; simp [stepO]; omega
theorem vals_good {ps : List (Str × Value)} {f : Str × Value → Bool} {ys : Array Value} {i : Nat} {v : Value} (hg : GoodO ps) (e1 : ys.toList = (ps.filter f).map (·.2)) (e : ys[i]? = some v) : v = .none ∨ ∃ y ty, v = .str y ty ∧ ctlIn isCtlV y.cps = false ∧ y.length ≤ 1000 := by
  have hv : v ∈ ys.toList := List.mem_of_getElem? (i := i) (by rw [Array.getElem?_toList]; exact e)
  rw [e1, List.mem_map] at hv
  obtain ⟨q, hq, rfl⟩ := hv
  exact (hg q (List.mem_filter.mp hq).1).2
theorem vals_size {ps : List (Str × Value)} {a : Str} {ys : Array Value} (e1 : ys.toList = (ps.filter fun q => Txt.lower q.1 == a).map (·.2)) : ys.size = cnt ps a := by
  rw [← Array.length_toList, e1, List.length_map]; rfl
theorem cut_len (ps : List (Str × Value)) (a : Str) : (cut ps a).length + cnt ps a = ps.length := by
  unfold cut cnt
  induction ps with
  | nil => rfl
  | cons q r ih =>
    rw [List.filter_cons, List.filter_cons]
    cases (Txt.lower q.1 == a) <;> simp <;> omega
theorem cnt_cut {ps : List (Str × Value)} {a b : Str} (h : b ≠ a) : cnt (cut ps a) b = cnt ps b := by
  unfold cut cnt
  rw [List.filter_filter]
  congr 1
  apply List.filter_congr
  intro q _
  cases e : (Txt.lower q.1 == b)
  · simp
  · have e2 := eq_of_beq e
    have : (Txt.lower q.1 == a) = false := by rw [e2]; exact beq_eq_false_iff_ne.mpr h
    simp [this]
theorem cnt_cut_self {ps : List (Str × Value)} {a : Str} : cnt (cut ps a) a = 0 := by
  unfold cut cnt
  rw [List.filter_filter, List.length_eq_zero_iff, List.filter_eq_nil_iff]
  intro q _
  cases (Txt.lower q.1 == a) <;> simp
theorem cnt_append (a b : List (Str × Value)) (c : Str) : cnt (a ++ b) c = cnt a c + cnt b c := by simp [cnt]
theorem cnt_all {rs : List (Str × Value)} {a : Str} (h : ∀ q ∈ rs, Txt.lower q.1 = a) : cnt rs a = rs.length := by
  unfold cnt
  rw [List.filter_eq_self.mpr (fun q hq => by rw [h q hq]; exact beq_self_eq_true a)]
theorem cnt_other {rs : List (Str × Value)} {a b : Str} (h : ∀ q ∈ rs, Txt.lower q.1 = a) (hne : b ≠ a) : cnt rs b = 0 := by
  unfold cnt
  rw [List.length_eq_zero_iff, List.filter_eq_nil_iff]
  intro q hq e
  exact hne ((eq_of_beq e).symm.trans (h q hq))
theorem Good.cut {ps : List (Str × Value)} (h : Good ps) (a : Str) : Good (cut ps a) := fun q hq => h q (List.mem_filter.mp hq).1
theorem Good.append {a b : List (Str × Value)} (h1 : Good a) (h2 : Good b) : Good (a ++ b) := fun q hq => (List.mem_append.mp hq).elim (h1 q) (h2 q)
theorem Good.one {a : Str} {y : Str} {ty : Tok} (h1 : ctlIn isCtlN a.cps = false) (h2 : ctlIn isCtlV y.cps = false) (h3 : y.length ≤ 1000) : Good [(a, .str y ty)] := fun q hq => by
  cases List.mem_singleton.mp hq
  exact ⟨h1, y, ty, rfl, h2, h3⟩
theorem all_snoc {rs : List (Str × Value)} {a nm : Str} {v : Value} (h : ∀ q ∈ rs, Txt.lower q.1 = a) (e : Txt.lower nm = a) : ∀ q ∈ rs ++ [(nm, v)], Txt.lower q.1 = a := fun q hq => (List.mem_append.mp hq).elim (h q) fun hq => by
  cases List.mem_singleton.mp hq
  exact e
theorem GoodO.cut {ps : List (Str × Value)} (h : GoodO ps) (a : Str) : GoodO (cut ps a) := fun q hq => h q (List.mem_filter.mp hq).1
theorem GoodO.append {a b : List (Str × Value)} (h1 : GoodO a) (h2 : GoodO b) : GoodO (a ++ b) := fun q hq => (List.mem_append.mp hq).elim (h1 q) (h2 q)
theorem GoodO.one {a : Str} {y : Str} {ty : Tok} (h1 : ctlIn isCtlN a.cps = false) (h2 : ctlIn isCtlV y.cps = false) (h3 : y.length ≤ 1000) : GoodO [(a, .str y ty)] := fun q hq => by
  cases List.mem_singleton.mp hq
  exact ⟨h1, .inr ⟨y, ty, rfl, h2, h3⟩⟩
theorem GoodO.none {a : Str} (h1 : ctlIn isCtlN a.cps = false) : GoodO [(a, Value.none)] := fun q hq => by
  cases List.mem_singleton.mp hq
  exact ⟨h1, .inl rfl⟩
/-- a pair of names taken out and laid anew -/
theorem same_turn {ps ps' rs rs2 : List (Str × Value)} {a b : Str} (hS : Same ps ps') (hab : b ≠ a) (g1 : GoodO rs) (g2 : GoodO rs2) (h1 : ∀ q ∈ rs, Txt.lower q.1 = a) (h2 : ∀ q ∈ rs2, Txt.lower q.1 = b)
    (l1 : rs.length = cnt ps' a) (l2 : rs2.length = cnt ps' b) : Same ps (cut (cut ps' a) b ++ rs ++ rs2) ∧ (cut (cut ps' a) b ++ rs ++ rs2).length = ps'.length ∧ (ps'.length : Int) - ((cut (cut ps' a) b).length : Int) = cnt ps' a + cnt ps' b := by
  have c1 := cut_len ps' a
  have c2 := cut_len (cut ps' a) b
  have c3 : cnt (cut ps' a) b = cnt ps' b := cnt_cut hab
  have hl : (cut (cut ps' a) b ++ rs ++ rs2).length = ps'.length := by rw [List.length_append, List.length_append]; omega
  refine ⟨⟨((hS.1.cut a).cut b).append g1 |>.append g2, hl.trans hS.2.1, fun c hc => ?_⟩, hl, by omega⟩
  rw [← hS.2.2 c hc, cnt_append, cnt_append]
  by_cases e1 : c = a
  · subst e1
    rw [cnt_cut hab.symm, cnt_cut_self, cnt_all h1, cnt_other h2 hab.symm]
    omega
  · by_cases e2 : c = b
    · subst e2
      rw [cnt_cut_self, cnt_all h2, cnt_other h1 e1]
      omega
    · rw [cnt_cut e2, cnt_cut e1, cnt_other h1 e1, cnt_other h2 e2]
      omega
theorem nm_ne {j k : Nat} {a b : Str} (h : j < k) (hk : k < 5) (ha : nmL[j]? = some a) (hb : nmL[k]? = some b) : b ≠ a := by
  have key : ∀ k < 5, ∀ j < k, nmL[k]? ≠ nmL[j]? := by decide +kernel
  intro e
  exact key k hk j h (by rw [ha, hb, e])
theorem nm_getD {j : Nat} {a : Str} (ha : nmL[j]? = some a) : nmL.getD j Str.empty = a := by simp [List.getD, ha]
theorem lossTo_len (c : Nat → Int) : (lossTo c 0).length = 0 ∧ (lossTo c 1).length = 0 ∧ (lossTo c 2).length = 1 ∧ (lossTo c 3).length = 3 ∧ (lossTo c 4).length = 6 ∧ (lossTo c 5).length = 10 := ⟨rfl, rfl, rfl, rfl, rfl, rfl⟩
theorem loss_small (c : Nat → Int) {k j : Nat} (hk : k < 5) (hj : j ≤ k) : (lossTo c k ++ lossRow c k j).length ≤ 20 := by
  have h : ∀ k < 5, (lossTo c k).length ≤ 10 := by
    intro k hk
    match k, hk with
    | 0, _ => exact by simp [lossTo]
    | 1, _ => exact by simp [lossTo, lossRow]
    | 2, _ => exact by simp [lossTo, lossRow]
    | 3, _ => exact by simp [lossTo, lossRow]
    | 4, _ => exact by simp [lossTo, lossRow]
  have := h k hk
  rw [List.length_append]
  simp only [lossRow, List.length_map, List.length_range]
  omega
/-- «sorted» of a list of whole numbers -/
theorem sort_own {w : World} {A : Around} {E : Value → Shared → Prop} {s : Shared} {h₀ : Heap} {L l : Addr} {m : Str → Option Value} {news : List (Addr × Obj)} {a : Array Value} {b : Nat} {ns : List Int} {Q : Value → Shared → Prop} (F : Fr h₀ L s.heap m) (N : News h₀ L s.heap news) (hl : (l, listOf a b) ∈ news) (hi : IntsAre a.toList ns) (h64 : ns.length < 64)
    (h : ∀ D a' c h', Fr h₀ L h' m → News h₀ L h' ((D, listOf a' c) :: news) → (∀ q ∈ news, q.1 < D) → IntsAre a'.toList (sortI ns) → Q (.ref D) { s with heap := h' }) : wpAny (model pg w) A (call (.builtin "sorted") [.ref l]) Q E s := by
  refine kso_sorted F N (kso_isList N hl rfl) hi h64 fun D vs' ns' c h' F' N' hlt hi' _ hp hs _ => ?_
  rw [eq_sortI hp hs] at hi'
  exact h D vs'.toArray c h' F' N' hlt (by simpa using hi')
end Mine
namespace Mine
local macro_rules | `(tactic| k_room) => `(tactic| first | ((try simp only [depth_under_make, depth_under_kw, depth_in1, depth_deeper, depth_caller]); omega) | decide)
local macro_rules | `(tactic| k_enter) => `(tactic| (refine' code_def ?k1 ?k2 ?k3 ?k4 ?k5 ?kA ?kF ?kK ?k6 ?k7 ?k8 ?k9 ?kB ?_ ?c2 ?c3 ?c4 ?c5; (case k1 => k_asm); (case k2 => k_asm); (case k3 => k_asm); (case k4 => k_asm); (case k5 => k_asm); (case kA => assumption); (case kF => assumption); (case kK => assumption);  (case k6 => k_is); (case k7 => k_is); (case k8 => k_room); (case k9 => first | exact BindsTo.of_eq rfl | exact binds_K (by k_in) rfl (by k_is) rfl rfl rfl | fail "k_enter: no rule for these arguments"); (case c5 => decide); (case kB => exact locs rfl); (case c2 => exact rfl); (case c3 => exact rfl); (case c4 => exact rfl); k_whole; intro g' L' h' FG' F' N' B' X' T'; (try dsimp only); (try k_lift B'); (try k_fold)))
local macro_rules | `(tactic| k_enter) => `(tactic| (refine' code_defC ?k1 ?k2 ?k3 ?k4 ?k5 ?kA ?kF ?kK ?k6 ?k7 ?k8 ?k9 ?kB ?kD ?_ ?c2 ?c3 ?c4; (case k1 => k_asm); (case k2 => k_asm); (case k3 => k_asm); (case k4 => k_asm); (case k5 => k_asm); (case kA => assumption); (case kF => assumption); (case kK => assumption); (case k6 => k_is); (case k7 => k_is); (case k8 => k_room); (case k9 => first | exact BindsTo.of_eq rfl | exact binds_K (by k_in) rfl (by k_is) rfl rfl rfl | fail "k_enter: no rule for these arguments"); (case kB => exact rfl); (case kD => decide +kernel); (case c2 => exact rfl); (case c3 => exact rfl); (case c4 => exact rfl); k_whole; intro g' L' h' tk' cells' FG' F' N' Y' B' X' T' l1; k_cells Y'; (try simp only [List.cons_append, List.nil_append] at N'); (try dsimp only); (try k_lift B'); (try k_fold)))
local macro_rules | `(tactic| k_mem) => `(tactic| first | assumption | exact List.Mem.head _ | (refine' List.Mem.tail _ ?_; k_mem))
local macro_rules | `(tactic| k_all) => `(tactic| exact all_ne_of_lt (by assumption) (by first | exact Nat.le_refl _ | exact Nat.le_succ _ | omega))
local macro_rules | `(tactic| walk_at "call builtin:str.lower") => `(tactic| (refine PyProof.Rows.SCL.lower (by omega) ?_; intro _))
local macro_rules | `(tactic| walk_at "eval ListComp") => `(tactic| refine hold_intro ?_)
local macro_rules | `(tactic| walk_at "eval Slice none none none") => `(tactic| (refine slice_K (by assumption) (by assumption) ?_; intro sl' h' F' N'; (try k_sweep)))
local macro_rules | `(tactic| walk_at "setItem ref ref ref") => `(tactic| refine hold_intro ?_)
local macro_rules | `(tactic| walk_at "exec Assign cons ListComp") => `(tactic| ((with_reducible show wpAny _ _ (exec (Stmt.Assign [Expr.Subscript _ _ _] _ _) _) _ _ _); refine wpAny_Assign_Subscript ?_))
local macro_rules | `(tactic| walk_at "call builtin:len") => `(tactic| (refine' len_L ?N ?hl ?hs ?_; (case N => k_asm); (case hl => k_mem); (case hs => omega); intro t' tk'))
local macro_rules | `(tactic| walk_at "subscriptTail Name Slice ref ref") => `(tactic| ((with_reducible show wpAny _ _ (subscriptTail _ _ (Value.ref _) (Value.ref _)) _ _ _); refine' copy_L ?F ?N ?hl ?hs ?hz ?_ ?he; (case F => k_asm); (case N => k_asm); (case hl => k_mem); (case hs => exact List.Mem.head _); (case hz => rw [sizeLine_eq]; omega); (case he => with_unfolding_all rfl); intro D' h' F' N' l1'; (try k_sweep)))
local macro_rules | `(tactic| walk_at "enter_more") => `(tactic| (refine' kp_more ?k1 ?k2 ?k3 ?k4 ?k5 ?kA ?kF ?kK ?k6 ?k7 ?k8 ?kX ?kM ?kN ?kD ?kR ?kP ?kT ?kB ?_ ?c2 ?c3 ?c4 ?c5; (case kA => assumption); (case kF => assumption); (case kK => assumption); (case k1 => k_asm); (case k2 => k_asm); (case k3 => k_asm); (case k4 => k_asm); (case k5 => k_asm); (case k6 => k_is); (case k7 => k_is); (case k8 => k_room); (case kX => kp_lit); (case kM => exact rfl); (case kN => exact rfl); (case kD => kp_flats); (case kR => exact rfl); (case kP => exact rfl); (case kT => exact fun _ => rfl); (case kB => exact fun _ => locs rfl); (case c5 => decide); (case c2 => exact rfl); (case c3 => exact rfl); (case c4 => exact rfl); k_whole; intro D' o' g' L' h' tk' l1 lo' hs' fs' FG' F' N' B' X' T'; (try dsimp only); (try k_lift B'); (try k_fold)))
local macro_rules | `(tactic| walk_at "exec For Tuple Name") => `(tactic| refine hold_intro ?_)
local macro_rules | `(tactic| walk_at "exec For Tuple Call") => `(tactic| refine hold_intro ?_)
local macro_rules | `(tactic| walk_at "exec For Tuple Call cons nil") => `(tactic| refine hold_intro ?_)
local macro_rules | `(tactic| walk_at "exec For Tuple Name cons nil") => `(tactic| refine hold_intro ?_)
local macro_rules | `(tactic| walk_at "call builtin:list.append") => `(tactic| (refine' append_L ?F ?N ?hl ?_ ?hz; (case F => k_asm); (case N => k_asm); (case hl => k_mem); (case hz => (rw [sizeLine_eq]; omega)); intro h' F' N'))
local macro_rules | `(tactic| walk_at "mk_sit") => `(tactic| (refine' Sit.mk ?KX ?T ?B ?F ?N ?hA ?hf ?hke ?hroom ?hh; (case KX => k_asm); (case T => k_asm); (case B => k_asm); (case F => k_asm); (case N => k_asm); (case hA => first | with_reducible assumption | exact Around.frames_deeper (Below.stack (by with_reducible assumption)) | rfl); (case hf => first | with_reducible assumption | rfl); (case hke => first | with_reducible assumption | rfl); (case hroom => k_room); (case hh => first | with_reducible assumption | exact handled_deeper (by with_reducible assumption) | assumption | rfl)))
local macro_rules | `(tactic| walk_at "call ref") => `(tactic| ((with_reducible show wpAny _ _ (call (Value.ref 83) [_, Value.str _ _] (List.zip _ [Value.bool true])) _ _ _); k_dflt (refine' conv_name ?S ?ka ?kb ?_; (case S => walk_at "mk_sit"); (case ka => k_asm); (case kb => k_asm); k_whole); intro h' t' F' N'))
local macro_rules | `(tactic| walk_at "call ref") => `(tactic| ((with_reducible show wpAny _ _ (call (Value.ref 83) [_, Value.str _ _] (List.zip _ [Value.bool false])) _ _ _); k_dflt (refine' conv_val ?S ?ka ?kb ?_; (case S => walk_at "mk_sit"); (case ka => k_asm); (case kb => k_asm); k_whole); intro h' t' F' N'))
section
variable {w : World} {A : Around} {E : Value → Shared → Prop} {s : Shared} {h₀ : Heap} {env : Env} {x l t d ln : Addr} {tl : Tok} {m : Str → Option Value} {news : List (Addr × Obj)} {its nits a₀ : Array Value} {n nn k₀ : Nat} {ps : List (Str × Value)} {ts : List Int} {target : Expr} {body : List Stmt} {Q : Flow → Shared → Prop}
theorem loop_signs {x₀ : Str} {tx : Tok} (S : List Str) (R : Nat → List (Str × Value) → List Int → Prop)
    (hh : A.handled = none) (F : Fr h₀ env.locals s.heap m) (N : News h₀ env.locals s.heap news)
    (ha : x₀.cps.all (· < 128) = true) (htg : ∀ it v, letOwnedTupleGo target it v = pure ())
    (B : Box w news x l d tl its n ps) (ht : (t, listOf a₀ k₀) ∈ news) (hI : IntsAre a₀.toList ts) (hR : R 0 ps ts)
    (turn : ∀ i c tv u n₁ h tk it ps' ts' its' n' a' k', x₀.cps[i]? = some c → R i ps' ts' → Box w n₁ x l d tl its' n' ps' → (t, listOf a' k') ∈ n₁ → IntsAre a'.toList ts' → Kept2 l t news n₁ → it ∈ n₁ → it.1 ≠ l → it.1 ≠ t → Fr h₀ env.locals h (overL S u m) → News h₀ env.locals h n₁ →
      wpAny (model pg w) A (assign target env (.str ⟨#[c]⟩ tv)) (fun _ s₂ => wpAny (model pg w) A (execs body env) (TurnEnd h₀ env.locals s it (JTab w x l d t tl S m news R (i + 1)) Q) (notedBy (model pg w) A env fun e s' => cameBackBy (model pg w) A env E e s') s₂)
        (notedBy (model pg w) A env fun e s' => cameBackBy (model pg w) A env E e s') { s with heap := h, toks := tk })
    (done : ∀ u n₁ h tk ps' ts' its' n' a' k', R x₀.cps.size ps' ts' → Box w n₁ x l d tl its' n' ps' → (t, listOf a' k') ∈ n₁ → IntsAre a'.toList ts' → Kept2 l t news n₁ → Fr h₀ env.locals h (overL S u m) → News h₀ env.locals h n₁ → Q .next { s with heap := h, toks := tk }) :
    wpAny (model pg w) A (pyIter (.str x₀ tx)) (fun it s₂ => codeAny (model pg w) A (.forLoop target it body [] env) (fun r s' => match r with | .ok f => Q f s' | .error e => cameBackBy (model pg w) A env E e s') s₂) E s := by
  refine for_str (JTab w x l d t tl S m news R) hh F N ha htg JTab.mono ⟨Agree.start, Kept2.start, ps, ts, hR, ⟨_, _, B⟩, _, _, ht, hI⟩ ?_ ?_
  · rintro i c v m₁ n₁ h tk it e ⟨hA, hK, ps', ts', hR', ⟨its', n', B'⟩, a', k', ht', hI'⟩ him hit F' N'
    obtain ⟨u, rfl⟩ : ∃ u, m₁ = overL S u m := ⟨_, hA.over⟩
    exact turn i c v u n₁ h tk it ps' ts' its' n' a' k' e hR' B' ht' hI' hK hit (iter_ne N' him hit B'.hl isIter_list) (iter_ne N' him hit ht' isIter_list) F' N'
  · rintro m₁ n₁ h tk ⟨hA, hK, ps', ts', hR', ⟨its', n', B'⟩, a', k', ht', hI'⟩ F' N'
    obtain ⟨u, rfl⟩ : ∃ u, m₁ = overL S u m := ⟨_, hA.over⟩
    exact done u n₁ h tk ps' ts' its' n' a' k' hR' B' ht' hI' hK F' N'
end
def chL : List Str := [Str.ofString "a", Str.ofString "b", Str.ofString "c", Str.ofString "d"]
theorem ch_facts : ∀ a ∈ chL, Txt.lower a = a ∧ a.length ≤ 1000 ∧ ctlIn isCtlN (Txt.lower a).cps = false := by decide +kernel
theorem ch_at {i c : Nat} (h : (Str.ofString "abcd").cps[i]? = some c) : chL[i]? = some ⟨#[c]⟩ := by
  have hi : i < 4 := (Array.getElem?_eq_some_iff.mp h).1
  have key : ∀ i < 4, chL[i]? = ((Str.ofString "abcd").cps[i]?).map fun c => ⟨#[c]⟩ := by decide +kernel
  rw [key i hi, h]
  rfl
/-- the capital letter, the small letter -/
theorem cap_facts : ∀ j : Nat, j < 4 → Txt.lower (Txt.item (Str.ofString "ABCD") j) = chL.getD j Str.empty ∧ (Txt.item (Str.ofString "ABCD") j).length ≤ 1000 ∧ ctlIn isCtlN (Txt.lower (Txt.item (Str.ofString "ABCD") j)).cps = false := by decide +kernel
theorem low_facts : ∀ j : Nat, j < 4 → Txt.lower (Txt.item (Str.ofString "abcd") j) = chL.getD j Str.empty ∧ (Txt.item (Str.ofString "abcd") j).length ≤ 1000 ∧ ctlIn isCtlN (Txt.lower (Txt.item (Str.ofString "abcd") j)).cps = false := by decide +kernel
theorem mix_facts : ∀ j : Nat, j < 4 → ∀ b : Nat, b < 2 → Txt.lower (Txt.item (Str.ofString "abcdABCD") ((j : Int) + 4 * (b : Int))) = chL.getD j Str.empty ∧ (Txt.item (Str.ofString "abcdABCD") ((j : Int) + 4 * (b : Int))).length ≤ 1000 ∧ ctlIn isCtlN (Txt.item (Str.ofString "abcdABCD") ((j : Int) + 4 * (b : Int))).cps = false := by decide +kernel
/-- the pairs hold f i names of the i-th letter -/
def Word (f : Nat → Nat) (ps : List (Str × Value)) : Prop := Good ps ∧ (∀ i, i < 4 → cnt ps (chL.getD i Str.empty) = f i) ∧ ps.length = f 0 + f 1 + f 2 + f 3
theorem ch_ne {i j : Nat} (hi : i < 4) (hj : j < 4) (h : i ≠ j) : chL.getD i Str.empty ≠ chL.getD j Str.empty := by
  have key : ∀ i < 4, ∀ j < 4, i ≠ j → chL.getD i Str.empty ≠ chL.getD j Str.empty := by decide +kernel
  exact key i hi j hj h
theorem Word.push {f f' : Nat → Nat} {ps : List (Str × Value)} {j : Nat} {nm y : Str} {ty : Tok} (h : Word f ps) (hj : j < 4) (hn : Txt.lower nm = chL.getD j Str.empty) (h1 : ctlIn isCtlN nm.cps = false) (h2 : ctlIn isCtlV y.cps = false) (h3 : y.length ≤ 1000)
    (e1 : f' j = f j + 1) (e2 : ∀ i, i < 4 → i ≠ j → f' i = f i) : Word f' (ps ++ [(nm, .str y ty)]) := by
  refine ⟨h.1.append (Good.one h1 h2 h3), fun i hi => ?_, ?_⟩
  · rw [cnt_append, h.2.1 i hi]
    by_cases e : i = j
    · subst e
      rw [e1, cnt_all (a := chL.getD i Str.empty) (fun q hq => by cases List.mem_singleton.mp hq; exact hn)]
      rfl
    · rw [e2 i hi e, cnt_other (a := chL.getD j Str.empty) (fun q hq => by cases List.mem_singleton.mp hq; exact hn) (ch_ne hi hj e)]
      rfl
  · rw [List.length_append, h.2.2]
    show _ + 1 = _
    have k0 := e2 0; have k1 := e2 1; have k2 := e2 2; have k3 := e2 3
    match j, hj with
    | 0, _ => have := k1 (by omega) (by omega); have := k2 (by omega) (by omega); have := k3 (by omega) (by omega); omega
    | 1, _ => have := k0 (by omega) (by omega); have := k2 (by omega) (by omega); have := k3 (by omega) (by omega); omega
    | 2, _ => have := k0 (by omega) (by omega); have := k1 (by omega) (by omega); have := k3 (by omega) (by omega); omega
    | 3, _ => have := k0 (by omega) (by omega); have := k1 (by omega) (by omega); have := k2 (by omega) (by omega); omega
/-- how many of the i-th letter after k rounds and j of the next -/
def laid (c : Nat → Nat) (k j : Nat) : Nat → Nat := fun i => if i < j then min (k + 1) (c i) else min k (c i)
theorem laid_next (c : Nat → Nat) (k : Nat) : ∀ i, i < 4 → laid c (k + 1) 0 i = laid c k 4 i := fun i hi => by unfold laid; rw [if_pos hi, if_neg (by omega)]
theorem Word.congr {f f' : Nat → Nat} {ps : List (Str × Value)} (h : Word f ps) (e : ∀ i, i < 4 → f' i = f i) : Word f' ps := ⟨h.1, fun i hi => by rw [h.2.1 i hi, e i hi], by rw [h.2.2, e 0 (by omega), e 1 (by omega), e 2 (by omega), e 3 (by omega)]⟩
theorem laid_skip {c : Nat → Nat} {k j : Nat} (h : c j ≤ k) : ∀ i, i < 4 → laid c k (j + 1) i = laid c k j i := fun i hi => by
  unfold laid
  by_cases e : i = j
  · subst e; rw [if_pos (by omega), if_neg (by omega)]; omega
  · by_cases e2 : i < j
    · rw [if_pos (by omega), if_pos e2]
    · rw [if_neg (by omega), if_neg e2]
theorem laid_take {c : Nat → Nat} {k j : Nat} (h : k < c j) : laid c k (j + 1) j = laid c k j j + 1 ∧ ∀ i, i < 4 → i ≠ j → laid c k (j + 1) i = laid c k j i := by
  unfold laid
  refine ⟨?_, fun i hi hn => ?_⟩
  · rw [if_pos (by omega), if_neg (by omega)]; omega
  · by_cases e2 : i < j
    · rw [if_pos (by omega), if_pos e2]
    · rw [if_neg (by omega), if_neg e2]
theorem laid_le (c : Nat → Nat) (k j i : Nat) : laid c k j i ≤ c i := by unfold laid; split <;> omega
theorem laid_end {c : Nat → Nat} {k i : Nat} (h : c i ≤ k) : laid c k 0 i = c i := by unfold laid; rw [if_neg (by omega)]; omega
theorem pair_append {w : World} {A : Around} {E : Value → Shared → Prop} {s : Shared} {h₀ : Heap} {L g : Addr} {m : Str → Option Value} {news : List (Addr × Obj)} {its : Array Value} {k : Nat} {ps : List (Str × Value)} {nm : Str} {v : Value} {ta : Addr} {ta' : Tok} {Q : Value → Shared → Prop} (F : Fr h₀ L s.heap m) (N : News h₀ L s.heap news) (hl : (g, listOf its k) ∈ news) (P : PairsN news its.toList ps) (ht : (ta, pairObj nm ta' v) ∈ news) (hsm : nm.length ≤ 1000) (hs : ps.length < 1000)
   (h : ∀ h' news', Fr h₀ L h' m → News h₀ L h' news' → Kept g news news' → (g, listOf (its.push (.ref ta)) (k + 1)) ∈ news' → PairsN news' (its.push (.ref ta)).toList (ps ++ [(nm, v)]) → Q .none {s with heap := h'}) :
   wpAny (model pg w) A (call (.builtin "list.append") [.ref g, .ref ta]) Q E s := by
  have hz := P.length
  rw [Array.length_toList] at hz
  refine append_L F N hl (fun h' F' N' => h h' _ F' N' Kept.upd (mem_upd_self hl) ?_) (by rw [sizeLine_eq]; omega)
  have P' := (P.upd (o' := listOf (its.push (.ref ta)) (k + 1)) N hl (by show Value.type "list" ≠ Value.type "tuple"; decide)).snoc (mem_upd ht (news_ne N ht hl (by show Value.type "tuple" ≠ Value.type "list"; decide))) hsm
  rw [Array.toList_push]
  exact P'
theorem two_item {w : World} {A : Around} {E : Value → Shared → Prop} {s : Shared} {h₀ : Heap} {L D : Addr} {news : List (Addr × Obj)} {y0 y1 : Str} {t0 t1 : Tok} {cn : Nat} {i : Int} {value slice : Expr} {u : Tok} {Q : Value → Shared → Prop} (N : News h₀ L s.heap news) (hl : (D, listOf #[.str y0 t0, .str y1 t1] cn) ∈ news) (hi : 0 ≤ i ∧ i < 2)
    (h : ∀ y t', (y = y0 ∨ y = y1) → Q (.str y t') s) (hs : subscripted slice false (.ref D) (.int i u) = operate [.ref D, .int i u] (getItem (.ref D) (.int i u)) := by with_unfolding_all rfl) (hg : ∀ r, letTemporaryGo value (.ref D) r = pure () := by intro _; with_unfolding_all rfl) :
    wpAny (model pg w) A (subscriptTail value slice (.ref D) (.int i u)) Q E s := by
  have hc : i = 0 ∨ i = 1 := by omega
  rcases hc with rfl | rfl
  · exact item_listL (l := [.str y0 t0, .str y1 t1]) (x := .str y0 t0) (kso_isList N hl rfl) (by omega) (by omega) rfl (h _ _ (.inl rfl)) hs hg
  · exact item_listL (l := [.str y0 t0, .str y1 t1]) (x := .str y1 t1) (kso_isList N hl rfl) (by omega) (by omega) rfl (h _ _ (.inr rfl)) hs hg
theorem Kept.thru {g : Addr} {a b c d : List (Addr × Obj)} (h1 : Kept g a b) (h2 : Kept g c d) (h : ∀ p ∈ b, p ∈ c) : Kept g a d := fun p hp hne => h2 p (h p (h1 p hp hne)) hne
theorem fmod2 (i : Int) : 0 ≤ i.fmod 2 ∧ i.fmod 2 < 2 := ⟨Int.fmod_nonneg_of_pos _ (by decide), Int.fmod_lt_of_pos _ (by decide)⟩
theorem mix_at {j : Nat} (hj : j < 4) (i : Int) : Txt.lower (Txt.item (Str.ofString "abcdABCD") ((j : Int) + 4 * i.fmod 2)) = chL.getD j Str.empty ∧ (Txt.item (Str.ofString "abcdABCD") ((j : Int) + 4 * i.fmod 2)).length ≤ 1000 ∧ ctlIn isCtlN (Txt.item (Str.ofString "abcdABCD") ((j : Int) + 4 * i.fmod 2)).cps = false := by
  obtain ⟨h1, h2⟩ := fmod2 i
  obtain ⟨b, hb⟩ := Int.eq_ofNat_of_zero_le h1
  rw [hb]
  exact mix_facts j hj b (by omega)
theorem val_facts {y : Str} (h : y = Str.ofString "" ∨ y = Str.ofString "x") : ctlIn isCtlV y.cps = false ∧ y.length ≤ 1000 := by
  rcases h with rfl | rfl
  · decide +kernel
  · decide +kernel
theorem box_init {w : World} {A A₀ : Around} {E : Value → Shared → Prop} {s : Shared} {h₀ base : Heap} {env : Env} {outer : List Env} {L l : Addr} {m mg mb : Str → Option Value} {news : List (Addr × Obj)}
   {p : Program} {loose : List Str} {mean : ExcName → Option Value} {Q : Value → Shared → Prop} {its : Array Value} {n : Nat} {ps : List (Str × Value)} (S : Sit w A A₀ base h₀ env outer L m p loose mean mg mb news s.heap 15) (hl : (l, listOf its n) ∈ news) (P : PairsN news its.toList ps) (hg : Good ps) (hs : ps.length ≤ 1000)
   (h : ∀ x d h' t' tl news', Fr h₀ L h' m → News h₀ L h' news' → (∀ q ∈ news, q ∈ news') → Box w news' x l d tl its n ps → Q (.ref x) {s with heap := h', toks := t'}) :
   wpAny (model pg w) A (call (.ref 182) [.ref l]) Q E s := by
  have hz := P.length
  rw [Array.length_toList] at hz
  exact init_spec S hl (by omega) P hg fun x d h' t' tl F N => h x d h' t' tl _ F N (fun q hq => .tail _ (.tail _ hq)) ⟨.head _, .tail _ (.head _), .tail _ (.tail _ hl), P.mono fun q hq => .tail _ (.tail _ hq), hs⟩
theorem lt_fresh {a D : Addr} {o : Obj} {n : List (Addr × Obj)} (h : ∀ q ∈ n, q.1 < D) (hm : (a, o) ∈ n) : a < D := h _ hm
theorem cap_at {j : Nat} (hj : j < 4) : Txt.lower (Txt.item (Str.ofString "ABCD") j) = chL.getD j Str.empty ∧ (Txt.item (Str.ofString "ABCD") j).length ≤ 1000 ∧ ctlIn isCtlN (Txt.lower (Txt.item (Str.ofString "ABCD") j)).cps = false := cap_facts j hj
theorem low_at {j : Nat} (hj : j < 4) : Txt.lower (Txt.item (Str.ofString "abcd") j) = chL.getD j Str.empty ∧ (Txt.item (Str.ofString "abcd") j).length ≤ 1000 ∧ ctlIn isCtlN (Txt.lower (Txt.item (Str.ofString "abcd") j)).cps = false := low_facts j hj
theorem two_lost {f : Nat → Nat} {ps : List (Str × Value)} {j k : Nat} (h : Word f ps) (hj : j < 4) (hk : k < 4) (hne : k ≠ j) : (ps.length : Int) - ((cut (cut ps (chL.getD j Str.empty)) (chL.getD k Str.empty)).length : Int) = (f j : Int) + (f k : Int) := by
  have c1 := cut_len ps (chL.getD j Str.empty)
  have c2 := cut_len (cut ps (chL.getD j Str.empty)) (chL.getD k Str.empty)
  rw [cnt_cut (ch_ne hk hj hne), h.2.1 k hk] at c2
  rw [h.2.1 j hj] at c1
  omega
theorem box_reset {w : World} {A : Around} {E : Value → Shared → Prop} {s : Shared} {h₀ : Heap} {L x l d sl D : Addr} {tl : Tok} {m : Str → Option Value} {news : List (Addr × Obj)} {its its0 : Array Value} {n k0 : Nat} {ps ps0 : List (Str × Value)} {Q : Unit → Shared → Prop} (F : Fr h₀ L s.heap m) (N : News h₀ L s.heap news) (B : Box w news x l d tl its n ps) (hD : (D, listOf its0 k0) ∈ news) (hs : (sl, sliceAll) ∈ news) (hlD : l ≠ D) (P0 : PairsN news its0.toList ps0) (hz : ps0.length ≤ 1000)
    (h : ∀ h' news' n', Fr h₀ L h' m → News h₀ L h' news' → Kept l news news' → Box w news' x l d tl its0 n' ps0 → Q () {s with heap := h'}) : wpAny (model pg w) A (setItem (.ref l) (.ref sl) (.ref D)) Q E s := by
  have hz' := P0.length
  rw [Array.length_toList] at hz'
  have hz2 := B.small'
  refine setAll_L (l := l) (D := D) F N B.hl hD ⟨_, (N _ hs).1, rfl, rfl⟩ hlD (by rw [sizeLine_eq]; omega) fun h' n' F' N' => h h' _ n' F' N' Kept.upd (B.upd_self N (P0.upd N B.hl (by show Value.type "list" ≠ Value.type "tuple"; decide)) hz)
theorem ones_gen : ∀ (l : List Str) (ps : List (Str × Value)) (ts : List Int), l.Nodup → (l.foldl stepO (ps, ts)).2 = ts ++ l.map fun a => (cnt ps a : Int)
  | [], ps, ts, _ => (List.append_nil ts).symm
  | a :: r, ps, ts, h => by
    obtain ⟨ha, hr⟩ := List.nodup_cons.mp h
    rw [List.foldl_cons, stepO, ones_gen r _ _ hr, List.append_assoc]
    have c1 := cut_len ps a
    have e1 : (ps.length : Int) - ((cut ps a).length : Int) = cnt ps a := by omega
    have e2 : (r.map fun b => (cnt (cut ps a) b : Int)) = r.map fun b => (cnt ps b : Int) := List.map_congr_left fun b hb => by
      have hne : b ≠ a := fun e => ha (by rw [← e]; exact hb)
      rw [cnt_cut hne]
    show ts ++ ([(ps.length : Int) - ((cut ps a).length : Int)] ++ _) = _
    rw [e1, e2]
    rfl
theorem ones_word {f : Nat → Nat} {ps : List (Str × Value)} (h : Word f ps) : (chL.foldl stepO (ps, [(ps.length : Int)])).2 = [((f 0 + f 1 + f 2 + f 3 : Nat) : Int), (f 0 : Int), (f 1 : Int), (f 2 : Int), (f 3 : Int)] := by
  rw [ones_gen _ _ _ (by decide +kernel), h.2.2, ← h.2.1 0 (by omega), ← h.2.1 1 (by omega), ← h.2.1 2 (by omega), ← h.2.1 3 (by omega)]
  rfl
end Mine
namespace Mine
local macro_rules | `(tactic| k_room) => `(tactic| first | ((try simp only [depth_under_make, depth_under_kw, depth_in1, depth_deeper, depth_caller]); omega) | decide)
local macro_rules | `(tactic| k_enter) => `(tactic| (refine' code_def ?k1 ?k2 ?k3 ?k4 ?k5 ?kA ?kF ?kK ?k6 ?k7 ?k8 ?k9 ?kB ?_ ?c2 ?c3 ?c4 ?c5; (case k1 => k_asm); (case k2 => k_asm); (case k3 => k_asm); (case k4 => k_asm); (case k5 => k_asm); (case kA => assumption); (case kF => assumption); (case kK => assumption);  (case k6 => k_is); (case k7 => k_is); (case k8 => k_room); (case k9 => first | exact BindsTo.of_eq rfl | exact binds_K (by k_in) rfl (by k_is) rfl rfl rfl | fail "k_enter: no rule for these arguments"); (case c5 => decide); (case kB => exact locs rfl); (case c2 => exact rfl); (case c3 => exact rfl); (case c4 => exact rfl); k_whole; intro g' L' h' FG' F' N' B' X' T'; (try dsimp only); (try k_lift B'); (try k_fold)))
local macro_rules | `(tactic| k_enter) => `(tactic| (refine' code_defC ?k1 ?k2 ?k3 ?k4 ?k5 ?kA ?kF ?kK ?k6 ?k7 ?k8 ?k9 ?kB ?kD ?_ ?c2 ?c3 ?c4; (case k1 => k_asm); (case k2 => k_asm); (case k3 => k_asm); (case k4 => k_asm); (case k5 => k_asm); (case kA => assumption); (case kF => assumption); (case kK => assumption); (case k6 => k_is); (case k7 => k_is); (case k8 => k_room); (case k9 => first | exact BindsTo.of_eq rfl | exact binds_K (by k_in) rfl (by k_is) rfl rfl rfl | fail "k_enter: no rule for these arguments"); (case kB => exact rfl); (case kD => decide +kernel); (case c2 => exact rfl); (case c3 => exact rfl); (case c4 => exact rfl); k_whole; intro g' L' h' tk' cells' FG' F' N' Y' B' X' T' l1; k_cells Y'; (try simp only [List.cons_append, List.nil_append] at N'); (try dsimp only); (try k_lift B'); (try k_fold)))
local macro_rules | `(tactic| k_mem) => `(tactic| first | assumption | exact List.Mem.head _ | (refine' List.Mem.tail _ ?_; k_mem))
local macro_rules | `(tactic| k_all) => `(tactic| exact all_ne_of_lt (by assumption) (by first | exact Nat.le_refl _ | exact Nat.le_succ _ | omega))
local macro_rules | `(tactic| walk_at "call builtin:str.lower") => `(tactic| (refine PyProof.Rows.SCL.lower (by omega) ?_; intro _))
local macro_rules | `(tactic| walk_at "eval ListComp") => `(tactic| refine hold_intro ?_)
local macro_rules | `(tactic| walk_at "eval Slice none none none") => `(tactic| (refine slice_K (by assumption) (by assumption) ?_; intro sl' h' F' N'; (try k_sweep)))
local macro_rules | `(tactic| walk_at "setItem ref ref ref") => `(tactic| refine hold_intro ?_)
local macro_rules | `(tactic| walk_at "exec Assign cons ListComp") => `(tactic| ((with_reducible show wpAny _ _ (exec (Stmt.Assign [Expr.Subscript _ _ _] _ _) _) _ _ _); refine wpAny_Assign_Subscript ?_))
local macro_rules | `(tactic| walk_at "call builtin:len") => `(tactic| (refine' len_L ?N ?hl ?hs ?_; (case N => k_asm); (case hl => k_mem); (case hs => omega); intro t' tk'))
local macro_rules | `(tactic| walk_at "subscriptTail Name Slice ref ref") => `(tactic| ((with_reducible show wpAny _ _ (subscriptTail _ _ (Value.ref _) (Value.ref _)) _ _ _); refine' copy_L ?F ?N ?hl ?hs ?hz ?_ ?he; (case F => k_asm); (case N => k_asm); (case hl => k_mem); (case hs => exact List.Mem.head _); (case hz => rw [sizeLine_eq]; omega); (case he => with_unfolding_all rfl); intro D' h' F' N' l1'; (try k_sweep)))
local macro_rules | `(tactic| walk_at "enter_more") => `(tactic| (refine' kp_more ?k1 ?k2 ?k3 ?k4 ?k5 ?kA ?kF ?kK ?k6 ?k7 ?k8 ?kX ?kM ?kN ?kD ?kR ?kP ?kT ?kB ?_ ?c2 ?c3 ?c4 ?c5; (case kA => assumption); (case kF => assumption); (case kK => assumption); (case k1 => k_asm); (case k2 => k_asm); (case k3 => k_asm); (case k4 => k_asm); (case k5 => k_asm); (case k6 => k_is); (case k7 => k_is); (case k8 => k_room); (case kX => kp_lit); (case kM => exact rfl); (case kN => exact rfl); (case kD => kp_flats); (case kR => exact rfl); (case kP => exact rfl); (case kT => exact fun _ => rfl); (case kB => exact fun _ => locs rfl); (case c5 => decide); (case c2 => exact rfl); (case c3 => exact rfl); (case c4 => exact rfl); k_whole; intro D' o' g' L' h' tk' l1 lo' hs' fs' FG' F' N' B' X' T'; (try dsimp only); (try k_lift B'); (try k_fold)))
local macro_rules | `(tactic| walk_at "exec For Tuple Name") => `(tactic| refine hold_intro ?_)
local macro_rules | `(tactic| walk_at "exec For Tuple Call") => `(tactic| refine hold_intro ?_)
local macro_rules | `(tactic| walk_at "exec For Tuple Call cons nil") => `(tactic| refine hold_intro ?_)
local macro_rules | `(tactic| walk_at "exec For Tuple Name cons nil") => `(tactic| refine hold_intro ?_)
local macro_rules | `(tactic| walk_at "call builtin:list.append") => `(tactic| (refine' append_L ?F ?N ?hl ?_ ?hz; (case F => k_asm); (case N => k_asm); (case hl => k_mem); (case hz => (rw [sizeLine_eq]; omega)); intro h' F' N'))
local macro_rules | `(tactic| walk_at "mk_sit") => `(tactic| (refine' Sit.mk ?KX ?T ?B ?F ?N ?hA ?hf ?hke ?hroom ?hh; (case KX => k_asm); (case T => k_asm); (case B => k_asm); (case F => k_asm); (case N => k_asm); (case hA => first | with_reducible assumption | exact Around.frames_deeper (Below.stack (by with_reducible assumption)) | rfl); (case hf => first | with_reducible assumption | rfl); (case hke => first | with_reducible assumption | rfl); (case hroom => k_room); (case hh => first | with_reducible assumption | exact handled_deeper (by with_reducible assumption) | assumption | rfl)))
local macro_rules | `(tactic| walk_at "call ref") => `(tactic| ((with_reducible show wpAny _ _ (call (Value.ref 83) [_, Value.str _ _] (List.zip _ [Value.bool true])) _ _ _); k_dflt (refine' conv_name ?S ?ka ?kb ?_; (case S => walk_at "mk_sit"); (case ka => k_asm); (case kb => k_asm); k_whole); intro h' t' F' N'))
local macro_rules | `(tactic| walk_at "call ref") => `(tactic| ((with_reducible show wpAny _ _ (call (Value.ref 83) [_, Value.str _ _] (List.zip _ [Value.bool false])) _ _ _); k_dflt (refine' conv_val ?S ?ka ?kb ?_; (case S => walk_at "mk_sit"); (case ka => k_asm); (case kb => k_asm); k_whole); intro h' t' F' N'))
local macro_rules | `(tactic| walk_at "box") => `(tactic| first | with_reducible assumption | exact Box.tail (by with_reducible assumption) | exact Box.tail (Box.tail (by with_reducible assumption)) | exact Box.tail (Box.tail (Box.tail (by with_reducible assumption))) | exact Box.tail (Box.tail (Box.tail (Box.tail (by with_reducible assumption)))))
local macro_rules | `(tactic| k_mem) => `(tactic| first | with_reducible assumption | exact Box.hx (by with_reducible assumption) | exact Box.hd (by with_reducible assumption) | exact Box.hl (by with_reducible assumption) | exact List.Mem.head _ | (refine' List.Mem.tail _ ?_; k_mem) | (refine' Kept.mem (by with_reducible assumption) ?_ ?_; (k_mem); (first | with_reducible assumption | exact Ne.symm (by with_reducible assumption))))
local macro_rules | `(tactic| walk_at "call ref") => `(tactic| ((with_reducible show wpAny _ _ (call (Value.ref 102) [_, Value.str _ _] _) _ _ _); k_dflt (refine' box_del ?S ?B ?ka ?kb ?_; (case S => walk_at "mk_sit"); (case B => walk_at "box"); (case ka => walk_at "side"); (case kb => walk_at "side"); k_whole); intro h' t' n' its' k' F' N' K' B'))
local macro_rules | `(tactic| walk_at "call ref") => `(tactic| ((with_reducible show wpAny _ _ (call (Value.ref 121) [_, Value.str _ _] _) _ _ _); k_dflt (refine' box_get ?S ?B ?ka ?kb ?_; (case S => walk_at "mk_sit"); (case B => walk_at "box"); (case ka => walk_at "side"); (case kb => walk_at "side"); k_whole); intro D' h' t' ys' k' F' N' l1' e1'))
local macro_rules | `(tactic| walk_at "call ref") => `(tactic| ((with_reducible show wpAny _ _ (call (Value.ref 179) [_, Value.str _ _, Value.none] _) _ _ _); k_dflt (refine' box_none ?S ?B ?ka ?kb ?kc ?_; (case S => walk_at "mk_sit"); (case B => walk_at "box"); (case ka => walk_at "side"); (case kb => walk_at "side"); (case kc => walk_at "side"); k_whole); intro h' t' n' its' k' ty' F' N' K' B'))
local macro_rules | `(tactic| walk_at "call ref") => `(tactic| ((with_reducible show wpAny _ _ (call (Value.ref 179) [_, Value.str _ _, Value.str _ _] _) _ _ _); k_dflt (refine' box_str ?S ?B ?ka ?kb ?kc ?kd ?ke ?_; (case S => walk_at "mk_sit"); (case B => walk_at "box"); (case ka => walk_at "side"); (case kb => walk_at "side"); (case kc => walk_at "side"); (case kd => walk_at "side"); (case ke => walk_at "side"); k_whole); intro h' t' n' its' k' ty' F' N' K' B'))
local macro_rules | `(tactic| walk_at "call ref") => `(tactic| ((show wpAny _ _ (call (Value.ref 146) [Value.ref _]) _ _ _); k_dflt (refine' box_items ?S ?B ?_; (case S => walk_at "mk_sit"); (case B => walk_at "box"); k_whole); intro D' h' t' F' N' l1'))
local macro_rules | `(tactic| walk_at "side") => `(tactic| first | with_reducible assumption | decide | omega)
local macro_rules | `(tactic| walk_at "call builtin:len") => `(tactic| (k_dflt (refine' box_len ?S ?B ?_; (case S => walk_at "mk_sit"); (case B => walk_at "box"); k_whole); intro h' t' tk' F' N'))
local macro_rules | `(tactic| walk_at "call builtin:list.append") => `(tactic| (refine' append_K ?F ?N ?hl ?hz ?_; (case F => k_asm); (case N => k_asm); (case hl => k_mem); (case hz => (rw [sizeLine_eq]; first | omega | decide)); intro h' n' F' N' K' M'))
local macro_rules | `(tactic| walk_at "call builtin:list.append") => `(tactic| (refine' box_tell ?F ?N ?B ?ht ?hne ?hs ?_; (case F => k_asm); (case N => k_asm); (case B => walk_at "box"); (case ht => k_mem); (case hne => assumption); (case hs => walk_at "side"); intro h' n' F' N' K' M' B'))
local macro_rules | `(tactic| walk_at "call builtin:list.append") => `(tactic| (refine' box_append ?F ?N ?B ?ht ?hs ?hz ?_; (case F => k_asm); (case N => k_asm); (case B => walk_at "box"); (case ht => exact List.Mem.head _); (case hs => walk_at "side"); (case hz => walk_at "side"); intro h' n' F' N' K' B'))
local macro_rules | `(tactic| walk_at "exec For Name Call") => `(tactic| refine hold_intro ?_)
local macro_rules | `(tactic| walk_at "exec For Name Name") => `(tactic| refine hold_intro ?_)
local macro_rules | `(tactic| walk_at "exec For Name Name cons nil") => `(tactic| refine hold_intro ?_)
local macro_rules | `(tactic| walk_at "exec For Name Call cons nil") => `(tactic| refine hold_intro ?_)
local macro_rules | `(tactic| walk_at "kept2") => `(tactic| first | assumption | exact Kept2.start | (refine' Kept2.tail ?_; walk_at "kept2") | (refine' Kept2.left ?kz ?kw; (case kw => assumption); (case kz => walk_at "kept2")) | (refine' Kept2.right ?kz ?kw; (case kw => assumption); (case kz => walk_at "kept2")) | (refine' Kept2.both ?kz ?kw; (case kw => with_reducible assumption); (case kz => walk_at "kept2")))
local macro_rules | `(tactic| walk_at "agree") => `(tactic| first | assumption | exact Agree.start | (refine' Agree.set ?_ ?kw; (case kw => decide); walk_at "agree"))
local macro_rules | `(tactic| walk_at "delItem ref str") => `(tactic| (k_dflt (refine' delItem_own ?F ?X ?I ?hQ ?hS ?hF ?_; (case F => k_asm); (case X => k_asm); (case I => k_inst); (case hS => k_is); (case hF => k_is); (case hQ => k_is); k_whole)))
local macro_rules | `(tactic| walk_at "call builtin:len") => `(tactic| (refine' len_L ?N ?hl ?hs ?_; (case hl => k_mem); (case hs => with_reducible assumption); (case N => k_asm); intro t' tk'))
section
variable {w : World} {A A₀ : Around} {E : Value → Shared → Prop} {s : Shared} {h₀ base : Heap} {env : Env} {outer : List Env} {L x l d ln : Addr} {tl : Tok} {m mg mb : Str → Option Value} {news : List (Addr × Obj)}
   {p : Program} {loose : List Str} {mean : ExcName → Option Value} {Q : Value → Shared → Prop} {nm : Str} {tk : Tok} {its nits : Array Value} {n nn : Nat} {ps : List (Str × Value)}
theorem ones_spec (S : Sit w A A₀ base h₀ env outer L m p loose mean mg mb news s.heap 20) (B : Box w news x l d tl its n ps) (hnm : (ln, listOf nits nn) ∈ news) (hns : StrsAre nits.toList nmL) (hne : ln ≠ l) (h5 : nits.size = 5)
   (h : ∀ t h' t' news' its' n' a b, Fr h₀ L h' m → News h₀ L h' news' → Kept2 l t news news' → (∀ q ∈ news, q.1 < t) → Box w news' x l d tl its' n' (nmL.foldl stepO (ps, [(ps.length : Int)])).1 → (t, listOf a b) ∈ news' → IntsAre a.toList (nmL.foldl stepO (ps, [(ps.length : Int)])).2 → Q (.ref t) {s with heap := h', toks := t'}) :
   wpAny (model pg w) A (call (.ref 200) [.ref x, .ref ln]) Q E s := by
  obtain ⟨KX, T, B', F, N, hA, hf, hke, hroom, hh⟩ := S
  refine wpAny_call ?_
  k_enter
  k_steps
  refine hold_elim ?_
  rename (∀ p ∈ news, p.1 < _) => hlt
  have hlt3 : l ≠ _ := Nat.ne_of_lt (hlt _ B.hl)
  have hlt4 : ln ≠ _ := Nat.ne_of_lt (hlt _ hnm)
  refine wpAny_For ?_
  k_steps
  refine' loop_names (S := [Str.ofString "name", Str.ofString "size"]) (R := fun i ps' ts' => (ps', ts') = (nmL.take i).foldl stepO (ps, [(ps.length : Int)])) ?hh ?F ?N ?hln hne hlt4 ?B ?ht ?hI ?hR ?turn ?done
  case hh => exact hh
  case F => k_asm
  case N => k_asm
  case hln => exact .tail _ hnm
  case B => exact B.tail
  case ht => exact .head _
  case hI => exact .cons _ _ .nil
  case hR => rfl
  case turn =>
    intro i v u n₁ h₂ tk₂ it ps' ts' its' n' a' k' e hR B' ht hI hK hit hi1 hi2 F' N'
    obtain ⟨a, ta, rfl, ha⟩ := strs_at hns i v (by rw [Array.getElem?_toList]; exact e)
    obtain ⟨f1, f2, f3⟩ := nm_facts a (List.mem_of_getElem? ha)
    have hlen : a'.size ≤ 1000 := by
      have e1 := congrArg (fun q => q.2.length) hR
      simp only [len_foldl, List.length_take, List.length_cons, List.length_nil] at e1
      have e2 := IntsAre.length hI
      rw [Array.length_toList] at e2
      have e3 : nmL.length = 5 := rfl
      omega
    simp only [overL] at F'
    refine assign_name F' N' rfl rfl ?_
    intro h₃ tk₃ F' N'
    k_steps
    refine ⟨_, _, _, _, rfl, by assumption, by assumption, by k_mem, by walk_at "agree", by walk_at "kept2", _, _, ?_, ⟨_, _, by walk_at "box"⟩, _, _, by k_mem, intsAre_push hI⟩
    show (_, _) = (nmL.take (i + 1)).foldl stepO _
    rw [take_step ha, ← hR, f1]
    rfl
  case done =>
    intro u n₁ h₂ tk₂ ps' ts' its' n' a' k' hR B' ht hI hK F' N'
    simp only [overL] at F'
    k_steps
    have e : nmL.take nits.size = nmL := by rw [h5]; rfl
    rw [e] at hR
    exact h _ _ _ n₁ _ _ _ _ (by assumption) (by assumption) hK.of_cons hlt (by rw [← hR]; exact B') ht (by rw [← hR]; exact hI)
end
end Mine
namespace Mine
local macro_rules | `(tactic| k_room) => `(tactic| first | ((try simp only [depth_under_make, depth_under_kw, depth_in1, depth_deeper, depth_caller]); omega) | decide)
local macro_rules | `(tactic| k_enter) => `(tactic| (refine' code_def ?k1 ?k2 ?k3 ?k4 ?k5 ?kA ?kF ?kK ?k6 ?k7 ?k8 ?k9 ?kB ?_ ?c2 ?c3 ?c4 ?c5; (case k1 => k_asm); (case k2 => k_asm); (case k3 => k_asm); (case k4 => k_asm); (case k5 => k_asm); (case kA => assumption); (case kF => assumption); (case kK => assumption);  (case k6 => k_is); (case k7 => k_is); (case k8 => k_room); (case k9 => first | exact BindsTo.of_eq rfl | exact binds_K (by k_in) rfl (by k_is) rfl rfl rfl | fail "k_enter: no rule for these arguments"); (case c5 => decide); (case kB => exact locs rfl); (case c2 => exact rfl); (case c3 => exact rfl); (case c4 => exact rfl); k_whole; intro g' L' h' FG' F' N' B' X' T'; (try dsimp only); (try k_lift B'); (try k_fold)))
local macro_rules | `(tactic| k_enter) => `(tactic| (refine' code_defC ?k1 ?k2 ?k3 ?k4 ?k5 ?kA ?kF ?kK ?k6 ?k7 ?k8 ?k9 ?kB ?kD ?_ ?c2 ?c3 ?c4; (case k1 => k_asm); (case k2 => k_asm); (case k3 => k_asm); (case k4 => k_asm); (case k5 => k_asm); (case kA => assumption); (case kF => assumption); (case kK => assumption); (case k6 => k_is); (case k7 => k_is); (case k8 => k_room); (case k9 => first | exact BindsTo.of_eq rfl | exact binds_K (by k_in) rfl (by k_is) rfl rfl rfl | fail "k_enter: no rule for these arguments"); (case kB => exact rfl); (case kD => decide +kernel); (case c2 => exact rfl); (case c3 => exact rfl); (case c4 => exact rfl); k_whole; intro g' L' h' tk' cells' FG' F' N' Y' B' X' T' l1; k_cells Y'; (try simp only [List.cons_append, List.nil_append] at N'); (try dsimp only); (try k_lift B'); (try k_fold)))
local macro_rules | `(tactic| k_mem) => `(tactic| first | assumption | exact List.Mem.head _ | (refine' List.Mem.tail _ ?_; k_mem))
local macro_rules | `(tactic| k_all) => `(tactic| exact all_ne_of_lt (by assumption) (by first | exact Nat.le_refl _ | exact Nat.le_succ _ | omega))
local macro_rules | `(tactic| walk_at "call builtin:str.lower") => `(tactic| (refine PyProof.Rows.SCL.lower (by omega) ?_; intro _))
local macro_rules | `(tactic| walk_at "eval ListComp") => `(tactic| refine hold_intro ?_)
local macro_rules | `(tactic| walk_at "eval Slice none none none") => `(tactic| (refine slice_K (by assumption) (by assumption) ?_; intro sl' h' F' N'; (try k_sweep)))
local macro_rules | `(tactic| walk_at "setItem ref ref ref") => `(tactic| refine hold_intro ?_)
local macro_rules | `(tactic| walk_at "exec Assign cons ListComp") => `(tactic| ((with_reducible show wpAny _ _ (exec (Stmt.Assign [Expr.Subscript _ _ _] _ _) _) _ _ _); refine wpAny_Assign_Subscript ?_))
local macro_rules | `(tactic| walk_at "call builtin:len") => `(tactic| (refine' len_L ?N ?hl ?hs ?_; (case N => k_asm); (case hl => k_mem); (case hs => omega); intro t' tk'))
local macro_rules | `(tactic| walk_at "subscriptTail Name Slice ref ref") => `(tactic| ((with_reducible show wpAny _ _ (subscriptTail _ _ (Value.ref _) (Value.ref _)) _ _ _); refine' copy_L ?F ?N ?hl ?hs ?hz ?_ ?he; (case F => k_asm); (case N => k_asm); (case hl => k_mem); (case hs => exact List.Mem.head _); (case hz => rw [sizeLine_eq]; omega); (case he => with_unfolding_all rfl); intro D' h' F' N' l1'; (try k_sweep)))
local macro_rules | `(tactic| walk_at "enter_more") => `(tactic| (refine' kp_more ?k1 ?k2 ?k3 ?k4 ?k5 ?kA ?kF ?kK ?k6 ?k7 ?k8 ?kX ?kM ?kN ?kD ?kR ?kP ?kT ?kB ?_ ?c2 ?c3 ?c4 ?c5; (case kA => assumption); (case kF => assumption); (case kK => assumption); (case k1 => k_asm); (case k2 => k_asm); (case k3 => k_asm); (case k4 => k_asm); (case k5 => k_asm); (case k6 => k_is); (case k7 => k_is); (case k8 => k_room); (case kX => kp_lit); (case kM => exact rfl); (case kN => exact rfl); (case kD => kp_flats); (case kR => exact rfl); (case kP => exact rfl); (case kT => exact fun _ => rfl); (case kB => exact fun _ => locs rfl); (case c5 => decide); (case c2 => exact rfl); (case c3 => exact rfl); (case c4 => exact rfl); k_whole; intro D' o' g' L' h' tk' l1 lo' hs' fs' FG' F' N' B' X' T'; (try dsimp only); (try k_lift B'); (try k_fold)))
local macro_rules | `(tactic| walk_at "exec For Tuple Name") => `(tactic| refine hold_intro ?_)
local macro_rules | `(tactic| walk_at "exec For Tuple Call") => `(tactic| refine hold_intro ?_)
local macro_rules | `(tactic| walk_at "exec For Tuple Call cons nil") => `(tactic| refine hold_intro ?_)
local macro_rules | `(tactic| walk_at "exec For Tuple Name cons nil") => `(tactic| refine hold_intro ?_)
local macro_rules | `(tactic| walk_at "call builtin:list.append") => `(tactic| (refine' append_L ?F ?N ?hl ?_ ?hz; (case F => k_asm); (case N => k_asm); (case hl => k_mem); (case hz => (rw [sizeLine_eq]; omega)); intro h' F' N'))
local macro_rules | `(tactic| walk_at "mk_sit") => `(tactic| (refine' Sit.mk ?KX ?T ?B ?F ?N ?hA ?hf ?hke ?hroom ?hh; (case KX => k_asm); (case T => k_asm); (case B => k_asm); (case F => k_asm); (case N => k_asm); (case hA => first | with_reducible assumption | exact Around.frames_deeper (Below.stack (by with_reducible assumption)) | rfl); (case hf => first | with_reducible assumption | rfl); (case hke => first | with_reducible assumption | rfl); (case hroom => k_room); (case hh => first | with_reducible assumption | exact handled_deeper (by with_reducible assumption) | assumption | rfl)))
local macro_rules | `(tactic| walk_at "call ref") => `(tactic| ((with_reducible show wpAny _ _ (call (Value.ref 83) [_, Value.str _ _] (List.zip _ [Value.bool true])) _ _ _); k_dflt (refine' conv_name ?S ?ka ?kb ?_; (case S => walk_at "mk_sit"); (case ka => k_asm); (case kb => k_asm); k_whole); intro h' t' F' N'))
local macro_rules | `(tactic| walk_at "call ref") => `(tactic| ((with_reducible show wpAny _ _ (call (Value.ref 83) [_, Value.str _ _] (List.zip _ [Value.bool false])) _ _ _); k_dflt (refine' conv_val ?S ?ka ?kb ?_; (case S => walk_at "mk_sit"); (case ka => k_asm); (case kb => k_asm); k_whole); intro h' t' F' N'))
local macro_rules | `(tactic| walk_at "box") => `(tactic| first | with_reducible assumption | exact Box.tail (by with_reducible assumption) | exact Box.tail (Box.tail (by with_reducible assumption)) | exact Box.tail (Box.tail (Box.tail (by with_reducible assumption))) | exact Box.tail (Box.tail (Box.tail (Box.tail (by with_reducible assumption)))))
local macro_rules | `(tactic| k_mem) => `(tactic| first | with_reducible assumption | exact Box.hx (by with_reducible assumption) | exact Box.hd (by with_reducible assumption) | exact Box.hl (by with_reducible assumption) | exact List.Mem.head _ | (refine' List.Mem.tail _ ?_; k_mem) | (refine' Kept.mem (by with_reducible assumption) ?_ ?_; (k_mem); (first | with_reducible assumption | exact Ne.symm (by with_reducible assumption))))
local macro_rules | `(tactic| walk_at "call ref") => `(tactic| ((with_reducible show wpAny _ _ (call (Value.ref 102) [_, Value.str _ _] _) _ _ _); k_dflt (refine' box_del ?S ?B ?ka ?kb ?_; (case S => walk_at "mk_sit"); (case B => walk_at "box"); (case ka => walk_at "side"); (case kb => walk_at "side"); k_whole); intro h' t' n' its' k' F' N' K' B'))
local macro_rules | `(tactic| walk_at "call ref") => `(tactic| ((with_reducible show wpAny _ _ (call (Value.ref 121) [_, Value.str _ _] _) _ _ _); k_dflt (refine' box_get ?S ?B ?ka ?kb ?_; (case S => walk_at "mk_sit"); (case B => walk_at "box"); (case ka => walk_at "side"); (case kb => walk_at "side"); k_whole); intro D' h' t' ys' k' F' N' l1' e1'))
local macro_rules | `(tactic| walk_at "call ref") => `(tactic| ((with_reducible show wpAny _ _ (call (Value.ref 179) [_, Value.str _ _, Value.none] _) _ _ _); k_dflt (refine' box_none ?S ?B ?ka ?kb ?kc ?_; (case S => walk_at "mk_sit"); (case B => walk_at "box"); (case ka => walk_at "side"); (case kb => walk_at "side"); (case kc => walk_at "side"); k_whole); intro h' t' n' its' k' ty' F' N' K' B'))
local macro_rules | `(tactic| walk_at "call ref") => `(tactic| ((with_reducible show wpAny _ _ (call (Value.ref 179) [_, Value.str _ _, Value.str _ _] _) _ _ _); k_dflt (refine' box_str ?S ?B ?ka ?kb ?kc ?kd ?ke ?_; (case S => walk_at "mk_sit"); (case B => walk_at "box"); (case ka => walk_at "side"); (case kb => walk_at "side"); (case kc => walk_at "side"); (case kd => walk_at "side"); (case ke => walk_at "side"); k_whole); intro h' t' n' its' k' ty' F' N' K' B'))
local macro_rules | `(tactic| walk_at "call ref") => `(tactic| ((show wpAny _ _ (call (Value.ref 146) [Value.ref _]) _ _ _); k_dflt (refine' box_items ?S ?B ?_; (case S => walk_at "mk_sit"); (case B => walk_at "box"); k_whole); intro D' h' t' F' N' l1'))
local macro_rules | `(tactic| walk_at "side") => `(tactic| first | with_reducible assumption | decide | omega)
local macro_rules | `(tactic| walk_at "call builtin:len") => `(tactic| (k_dflt (refine' box_len ?S ?B ?_; (case S => walk_at "mk_sit"); (case B => walk_at "box"); k_whole); intro h' t' tk' F' N'))
local macro_rules | `(tactic| walk_at "call builtin:list.append") => `(tactic| (refine' append_K ?F ?N ?hl ?hz ?_; (case F => k_asm); (case N => k_asm); (case hl => k_mem); (case hz => (rw [sizeLine_eq]; first | omega | decide)); intro h' n' F' N' K' M'))
local macro_rules | `(tactic| walk_at "call builtin:list.append") => `(tactic| (refine' box_tell ?F ?N ?B ?ht ?hne ?hs ?_; (case F => k_asm); (case N => k_asm); (case B => walk_at "box"); (case ht => k_mem); (case hne => assumption); (case hs => walk_at "side"); intro h' n' F' N' K' M' B'))
local macro_rules | `(tactic| walk_at "call builtin:list.append") => `(tactic| (refine' box_append ?F ?N ?B ?ht ?hs ?hz ?_; (case F => k_asm); (case N => k_asm); (case B => walk_at "box"); (case ht => exact List.Mem.head _); (case hs => walk_at "side"); (case hz => walk_at "side"); intro h' n' F' N' K' B'))
local macro_rules | `(tactic| walk_at "exec For Name Call") => `(tactic| refine hold_intro ?_)
local macro_rules | `(tactic| walk_at "exec For Name Name") => `(tactic| refine hold_intro ?_)
local macro_rules | `(tactic| walk_at "exec For Name Name cons nil") => `(tactic| refine hold_intro ?_)
local macro_rules | `(tactic| walk_at "exec For Name Call cons nil") => `(tactic| refine hold_intro ?_)
local macro_rules | `(tactic| walk_at "kept2") => `(tactic| first | assumption | exact Kept2.start | (refine' Kept2.tail ?_; walk_at "kept2") | (refine' Kept2.left ?kz ?kw; (case kw => assumption); (case kz => walk_at "kept2")) | (refine' Kept2.right ?kz ?kw; (case kw => assumption); (case kz => walk_at "kept2")) | (refine' Kept2.both ?kz ?kw; (case kw => with_reducible assumption); (case kz => walk_at "kept2")))
local macro_rules | `(tactic| walk_at "agree") => `(tactic| first | assumption | exact Agree.start | (refine' Agree.set ?_ ?kw; (case kw => decide); walk_at "agree"))
local macro_rules | `(tactic| walk_at "delItem ref str") => `(tactic| (k_dflt (refine' delItem_own ?F ?X ?I ?hQ ?hS ?hF ?_; (case F => k_asm); (case X => k_asm); (case I => k_inst); (case hS => k_is); (case hF => k_is); (case hQ => k_is); k_whole)))
local macro_rules | `(tactic| walk_at "call builtin:len") => `(tactic| (refine' len_L ?N ?hl ?hs ?_; (case hl => k_mem); (case hs => with_reducible assumption); (case N => k_asm); intro t' tk'))
section
variable {w : World} {A A₀ : Around} {E : Value → Shared → Prop} {s : Shared} {h₀ base : Heap} {env : Env} {outer : List Env} {L x l d ln : Addr} {tl : Tok} {m mg mb : Str → Option Value} {news : List (Addr × Obj)}
   {p : Program} {loose : List Str} {mean : ExcName → Option Value} {Q : Value → Shared → Prop} {nm : Str} {tk : Tok} {its nits : Array Value} {n nn : Nat} {ps : List (Str × Value)}
local macro_rules | `(tactic| walk_at "subscriptTail") => `(tactic| (refine' nm_item ?N ?hl ?hns ?ha ?_; (case N => k_asm); (case hl => k_mem); (case hns => assumption); (case ha => assumption); intro t'))
local macro_rules | `(tactic| walk_at "subscriptTail Name Name ref int") => `(tactic| (refine' nm_item ?N ?hl ?hns ?ha ?_; (case N => k_asm); (case hl => k_mem); (case hns => assumption); (case ha => assumption); intro t'))
theorem losses_spec (S : Sit w A A₀ base h₀ env outer L m p loose mean mg mb news s.heap 20) (B : Box w news x l d tl its n ps) (hnm : (ln, listOf nits nn) ∈ news) (hns : StrsAre nits.toList nmL) (hne : ln ≠ l) (h5 : nits.size = 5) (hg : GoodO ps) (hps : ps.length ≤ 20)
   (h : ∀ D h' t' t news' its' n' a b ps', Fr h₀ L h' m → News h₀ L h' news' → Kept2 l t news news' → (∀ q ∈ news, q.1 < t) → (∀ q ∈ news, q.1 < D) → Box w news' x l d tl its' n' ps' → Same ps ps' → (D, listOf a b) ∈ news' → IntsAre a.toList (sortI (lossTo (fun i => cnt ps (nmL.getD i Str.empty)) 5)) → Q (.ref D) {s with heap := h', toks := t'}) :
   wpAny (model pg w) A (call (.ref 193) [.ref x, .ref l, .ref ln]) Q E s := by
  obtain ⟨KX, T, B', F, N, hA, hf, hke, hroom, hh⟩ := S
  have hb5 : nits.size ≤ 1000000 := by omega
  refine wpAny_call ?_
  k_enter
  k_steps
  refine hold_elim ?_
  rename (∀ p ∈ news, p.1 < _) => hlt
  have hlt3 : l ≠ _ := Nat.ne_of_lt (hlt _ B.hl)
  have hlt4 : ln ≠ _ := Nat.ne_of_lt (hlt _ hnm)
  refine wpAny_For ?_
  k_steps
  rename IsRange _ _ _ _ _ _ _ _ => hr

  refine' loop_range (S := [Str.ofString "k", Str.ofString "j", Str.ofString "size", Str.ofString "one", Str.ofString "other", Str.ofString "text"]) (N₁ := 5) (R := fun i ps' ts' => Same ps ps' ∧ ts' = lossTo (fun i => cnt ps (nmL.getD i Str.empty)) i) ?hh ?F ?N hr ?hsm ?hn ?htg ?B ?ht ?hI ?hR ?turn ?done
  case hh => exact hh
  case F => k_asm
  case N => k_asm
  case hsm => decide
  case hn => decide
  case htg => intro _ _; rfl
  case B => walk_at "box"
  case ht => k_mem
  case hI => exact .nil
  case hR => exact ⟨⟨hg, rfl, fun _ _ => rfl⟩, rfl⟩
  case turn =>
    intro k tv u n₁ h₂ tk₂ it ps' ts' its' n' a' k' e hR B' ht hI hK hit hi1 hi2 F' N'
    have hn1 := hK.mem (.tail _ hnm) hne hlt4
    simp only [overL] at F'
    rw [Int.zero_add]
    refine assign_name F' N' rfl rfl ?_
    intro h₃ tk₃ F' N'
    k_steps
    refine hold_elim ?_
    refine wpAny_For ?_
    k_steps
    rename IsRange _ _ _ _ _ _ _ _ => hr'
    obtain ⟨hS, hts⟩ := hR
    obtain ⟨nk, hnk⟩ : ∃ a, nmL[k]? = some a := ⟨_, List.getElem?_eq_getElem (show k < nmL.length from e)⟩
    obtain ⟨g1, g2, g3⟩ := nm_facts nk (List.mem_of_getElem? hnk)
    obtain ⟨g4, g5, g6, g7, g8⟩ := nm_facts2 nk (List.mem_of_getElem? hnk)
    refine' loop_range (S := [Str.ofString "j", Str.ofString "size", Str.ofString "one", Str.ofString "other", Str.ofString "text"]) (N₁ := k) (R := fun j ps' ts' => Same ps ps' ∧ ts' = lossTo (fun i => cnt ps (nmL.getD i Str.empty)) k ++ lossRow (fun i => cnt ps (nmL.getD i Str.empty)) k j) ?hh2 ?F2 ?N2 hr' ?hsm2 ?hn2 ?htg2 ?B2 ?ht2 ?hI2 ?hR2 ?turn2 ?done2
    case hh2 => exact hh
    case F2 => k_asm
    case N2 => k_asm
    case hsm2 => exact small_one (by omega) (by omega) (by omega) (by omega)
    case hn2 => first | exact rangeSize_nat _ _ | rfl
    case htg2 => intro _ _; rfl
    case B2 => walk_at "box"
    case ht2 => exact ht
    case hI2 => exact hI
    case hR2 => exact ⟨hS, by rw [hts]; exact (List.append_nil _).symm⟩
    case turn2 =>
      intro j tv u n₁ h₂ tk₂ it' ps' ts' its' n' a' k' e' hR B' ht hI hK' hit' hi1' hi2' F' N'
      obtain ⟨hS, hts⟩ := hR
      obtain ⟨nj, hnj⟩ : ∃ a, nmL[j]? = some a := ⟨_, List.getElem?_eq_getElem (show j < nmL.length from Nat.lt_trans e' e)⟩
      obtain ⟨f1, f2, f3⟩ := nm_facts nj (List.mem_of_getElem? hnj)
      obtain ⟨f4, f5, f6, f7, f8⟩ := nm_facts2 nj (List.mem_of_getElem? hnj)
      have hlen : a'.size ≤ 1000 := by
        have q1 := IntsAre.length hI
        have q2 := loss_small (fun i => cnt ps (nmL.getD i Str.empty)) e (Nat.le_of_lt e')
        rw [← hts] at q2
        rw [Array.length_toList] at q1
        omega
      have hn2 := hK'.mem hn1 hne hlt4
      simp only [overL] at F'
      rw [Int.zero_add]
      refine assign_name F' N' rfl rfl ?_
      intro h₃ tk₃ F' N'
      have hBl := B'.hl
      have hT := ht
      k_steps
      refine hold_elim ?_
      rename (∀ q ∈ n₁, q.1 ≠ _) => z1
      rename (∀ q ∈ _ :: n₁, q.1 ≠ _) => z2
      have d1 := (z1 _ hBl).symm
      have d2 := (z2 _ (.tail _ hBl)).symm
      have d3 := (z1 _ hT).symm
      have d4 := (z2 _ (.tail _ hT)).symm
      dsimp only at d1 d2 d3 d4
      rename (Array.toList _ = List.map _ (List.filter (fun q : Str × Value => Txt.lower q.1 == Txt.lower nj) _)) => e1
      rename (Array.toList _ = List.map _ (List.filter (fun q : Str × Value => Txt.lower q.1 == Txt.lower (Txt.upper nk)) _)) => e2
      rename Box _ _ _ _ _ _ _ _ _ => B3
      refine wpAny_For ?_
      k_steps
      rw [f5, g1] at B3
      refine' loop_names (S := [Str.ofString "text"]) (R := fun i ps3 ts3 => ts3 = ts' ++ [(ps'.length : Int) - ((cut (cut ps' nj) nk).length : Int)] ∧ ∃ rs, ps3 = cut (cut ps' nj) nk ++ rs ∧ GoodO rs ∧ rs.length = i ∧ ∀ q ∈ rs, Txt.lower q.1 = nj) ?hh3 ?F3 ?N3 ?hln3 ?hne3 ?hnt3 ?B3 ?ht3 ?hI3 ?hR3 ?turn3 ?done3
      case hh3 => exact hh
      case F3 => k_asm
      case N3 => k_asm
      case hln3 => k_mem
      case hne3 => exact d1
      case hnt3 => exact d3
      case B3 => exact B3
      case ht3 => k_mem
      case hI3 => exact intsAre_push hI
      case hR3 => exact ⟨by rw [f5, g1]; rfl, [], (List.append_nil _).symm, (fun _ h => nomatch h), rfl, fun _ h => nomatch h⟩
      case turn3 =>
        intro i v u n₂ h₂ tk₂ it'' ps3 ts3 its3 n3 a3 k3 e'' hR B' ht hI hK'' hit'' hi1'' hi2'' F' N'
        obtain ⟨hts3, rs, rfl, hgr, hrl, hrs⟩ := hR
        have e1' := e1
        rw [f1] at e1'
        have hz0 := vals_size e1'
        have hz : (cut (cut ps' nj) nk ++ rs).length < 1000 := by
          have c1 := cut_len ps' nj
          have c2 := cut_len (cut ps' nj) nk
          have c3 := hS.2.1
          have c4 := Array.getElem?_eq_some_iff.mp e''
          obtain ⟨c4, _⟩ := c4
          rw [List.length_append]
          omega
        have hn3 := hK''.mem (a := ln) (o := listOf nits nn) (by k_mem) hne hlt4
        simp only [overL] at F'
        rcases vals_good hS.1 e1 e'' with rfl | ⟨y, ty, rfl, hy1, hy2⟩
        · refine assign_name F' N' rfl rfl ?_
          intro h₃ tk₃ F' N'
          k_steps
          refine ⟨_, _, _, _, rfl, by assumption, by assumption, by k_mem, by walk_at "agree", by walk_at "kept2", _, _, ?_, ⟨_, _, by walk_at "box"⟩, _, _, by k_mem, hI⟩
          exact ⟨hts3, rs ++ [(nj, .str Str.empty _)], by rw [List.append_assoc], hgr.append (GoodO.one f4 (by decide +kernel) (by decide +kernel)), by rw [List.length_append, hrl]; rfl, all_snoc hrs f1⟩
        · refine assign_name F' N' rfl rfl ?_
          intro h₃ tk₃ F' N'
          k_steps
          refine ⟨_, _, _, _, rfl, by assumption, by assumption, by k_mem, by walk_at "agree", by walk_at "kept2", _, _, ?_, ⟨_, _, by walk_at "box"⟩, _, _, by k_mem, hI⟩
          exact ⟨hts3, rs ++ [(nj, .str y _)], by rw [List.append_assoc], hgr.append (GoodO.one f4 hy1 hy2), by rw [List.length_append, hrl]; rfl, all_snoc hrs f1⟩
      case done3 =>
        intro u n₂ h₂ tk₂ ps3 ts3 its3 n3 a3 k3 hR B' ht hI hK'' F' N'
        obtain ⟨hts3, rs, rfl, hgr, hrl, hrs⟩ := hR
        have e1' := e1
        rw [f1] at e1'
        rw [vals_size e1'] at hrl
        have e2' := e2
        rw [g5] at e2'
        have hz1 := vals_size e2'
        have hn3 := hK''.mem (a := ln) (o := listOf nits nn) (by k_mem) hne hlt4
        have hm3 := Kept2.mem hK'' (o := listOf _ _) (by k_mem) d2 d4
        have hit3 := Kept2.mem hK'' (a := it'.1) (o := it'.2) (by k_mem) hi1' hi2'
        simp only [overL] at F'
        k_steps
        refine hold_elim ?_
        refine wpAny_For ?_
        k_steps
        refine' loop_names (S := [Str.ofString "text"]) (R := fun i ps3 ts4 => ts4 = ts3 ∧ ∃ rs2, ps3 = cut (cut ps' nj) nk ++ rs ++ rs2 ∧ GoodO rs2 ∧ rs2.length = i ∧ ∀ q ∈ rs2, Txt.lower q.1 = nk) ?hh4 ?F4 ?N4 ?hln4 ?hne4 ?hnt4 ?B4 ?ht4 ?hI4 ?hR4 ?turn4 ?done4
        case hh4 => exact hh
        case F4 => k_asm
        case N4 => k_asm
        case hln4 => exact hm3
        case hne4 => exact d2
        case hnt4 => exact d4
        case B4 => exact B'
        case ht4 => exact ht
        case hI4 => exact hI
        case hR4 => exact ⟨rfl, [], (List.append_nil _).symm, (fun _ h => nomatch h), rfl, fun _ h => nomatch h⟩
        case turn4 =>
          intro i v u n₃ h₂ tk₂ it'' ps4 ts4 its4 n4 a4 k4 e'' hR B' ht hI hK'' hit'' hi1'' hi2'' F' N'
          obtain ⟨hts4, rs2, rfl, hgr2, hrl2, hrs2⟩ := hR
          have hz : (cut (cut ps' nj) nk ++ rs ++ rs2).length < 1000 := by
            have c1 := cut_len ps' nj
            have c2 := cut_len (cut ps' nj) nk
            have c3 := hS.2.1
            have c4 := Array.getElem?_eq_some_iff.mp e''
            obtain ⟨c4, _⟩ := c4
            have c5 : cnt ps' nk ≤ ps'.length := by have := cut_len ps' nk; omega
            rw [List.length_append, List.length_append]
            omega
          have hn4 := hK''.mem hn3 hne hlt4
          simp only [overL] at F'
          rcases vals_good hS.1 e2 e'' with rfl | ⟨y, ty, rfl, hy1, hy2⟩
          · refine assign_name F' N' rfl rfl ?_
            intro h₃ tk₃ F' N'
            k_steps
            refine ⟨_, _, _, _, rfl, by assumption, by assumption, by k_mem, by walk_at "agree", by walk_at "kept2", _, _, ?_, ⟨_, _, by walk_at "box"⟩, _, _, by k_mem, hI⟩
            exact ⟨hts4, rs2 ++ [(Txt.upper nk, .none)], by rw [List.append_assoc], hgr2.append (GoodO.none g8), by rw [List.length_append, hrl2]; rfl, all_snoc hrs2 g5⟩
          · refine assign_name F' N' rfl rfl ?_
            intro h₃ tk₃ F' N'
            k_steps
            refine ⟨_, _, _, _, rfl, by assumption, by assumption, by k_mem, by walk_at "agree", by walk_at "kept2", _, _, ?_, ⟨_, _, by walk_at "box"⟩, _, _, by k_mem, hI⟩
            exact ⟨hts4, rs2 ++ [(Txt.upper nk, .str y _)], by rw [List.append_assoc], hgr2.append (GoodO.one g8 hy1 hy2), by rw [List.length_append, hrl2]; rfl, all_snoc hrs2 g5⟩
        case done4 =>
          intro u n₃ h₂ tk₂ ps4 ts4 its4 n4 a4 k4 hR B' ht hI hK'' F' N'
          obtain ⟨hts4, rs2, rfl, hgr2, hrl2, hrs2⟩ := hR
          rw [hz1] at hrl2
          obtain ⟨w1, w2, w3⟩ := same_turn hS (nm_ne e' e hnj hnk) hgr hgr2 hrs hrs2 hrl hrl2
          rw [w3] at hts3
          have hit4 := Kept2.mem hK'' (a := it'.1) (o := it'.2) hit3 hi1' hi2'
          simp only [overL] at F'
          k_steps
          · have w4 : ((cut (cut ps' nj) nk ++ rs ++ rs2).length : Int) = ps'.length := by rw [w2]
            exact absurd w4 (by assumption)
          · refine ⟨_, _, _, _, rfl, by assumption, by assumption, hit4, by walk_at "agree", by walk_at "kept2", _, _, ?_, ⟨_, _, B'⟩, _, _, ht, hI⟩
            refine ⟨w1, ?_⟩
            rw [hts4, hts3, hts, lossRow_succ, hS.2.2 nj (List.mem_of_getElem? hnj), hS.2.2 nk (List.mem_of_getElem? hnk), List.append_assoc]
            rw [nm_getD hnj, nm_getD hnk]
    case done2 =>
      intro u n₁ h₂ tk₂ ps' ts' its' n' a' k' hR B' ht hI hK' F' N'
      obtain ⟨hS, hts⟩ := hR
      have hit4 := Kept2.mem hK' (a := it.1) (o := it.2) hit hi1 hi2
      simp only [overL] at F'
      k_steps
      refine ⟨_, _, _, _, rfl, by assumption, by assumption, hit4, by walk_at "agree", hK.both hK', _, _, ?_, ⟨_, _, B'⟩, _, _, ht, hI⟩
      exact ⟨hS, hts⟩
  case done =>
    intro u n₁ h₂ tk₂ ps' ts' its' n' a' k' hR B' ht hI hK F' N'
    obtain ⟨hS, hts⟩ := hR
    simp only [overL] at F'
    k_steps
    refine sort_own (by k_asm) (by k_asm) ht hI (by rw [hts, (lossTo_len _).2.2.2.2.2]; decide) ?_
    intro D a'' c h₃ F' N' l1 i1
    k_steps
    refine h D _ _ _ _ _ _ _ _ ps' (by assumption) (by assumption) hK.of_cons.tail hlt (kept2_lt hK.of_cons l1 B'.hl ht) B'.tail hS (.head _) ?_
    rw [← hts]
    exact i1
end
end Mine
namespace Mine
local macro_rules | `(tactic| k_room) => `(tactic| first | ((try simp only [depth_under_make, depth_under_kw, depth_in1, depth_deeper, depth_caller]); omega) | decide)
local macro_rules | `(tactic| k_enter) => `(tactic| (refine' code_def ?k1 ?k2 ?k3 ?k4 ?k5 ?kA ?kF ?kK ?k6 ?k7 ?k8 ?k9 ?kB ?_ ?c2 ?c3 ?c4 ?c5; (case k1 => k_asm); (case k2 => k_asm); (case k3 => k_asm); (case k4 => k_asm); (case k5 => k_asm); (case kA => assumption); (case kF => assumption); (case kK => assumption);  (case k6 => k_is); (case k7 => k_is); (case k8 => k_room); (case k9 => first | exact BindsTo.of_eq rfl | exact binds_K (by k_in) rfl (by k_is) rfl rfl rfl | fail "k_enter: no rule for these arguments"); (case c5 => decide); (case kB => exact locs rfl); (case c2 => exact rfl); (case c3 => exact rfl); (case c4 => exact rfl); k_whole; intro g' L' h' FG' F' N' B' X' T'; (try dsimp only); (try k_lift B'); (try k_fold)))
local macro_rules | `(tactic| k_enter) => `(tactic| (refine' code_defC ?k1 ?k2 ?k3 ?k4 ?k5 ?kA ?kF ?kK ?k6 ?k7 ?k8 ?k9 ?kB ?kD ?_ ?c2 ?c3 ?c4; (case k1 => k_asm); (case k2 => k_asm); (case k3 => k_asm); (case k4 => k_asm); (case k5 => k_asm); (case kA => assumption); (case kF => assumption); (case kK => assumption); (case k6 => k_is); (case k7 => k_is); (case k8 => k_room); (case k9 => first | exact BindsTo.of_eq rfl | exact binds_K (by k_in) rfl (by k_is) rfl rfl rfl | fail "k_enter: no rule for these arguments"); (case kB => exact rfl); (case kD => decide +kernel); (case c2 => exact rfl); (case c3 => exact rfl); (case c4 => exact rfl); k_whole; intro g' L' h' tk' cells' FG' F' N' Y' B' X' T' l1; k_cells Y'; (try simp only [List.cons_append, List.nil_append] at N'); (try dsimp only); (try k_lift B'); (try k_fold)))
local macro_rules | `(tactic| k_mem) => `(tactic| first | assumption | exact List.Mem.head _ | (refine' List.Mem.tail _ ?_; k_mem))
local macro_rules | `(tactic| k_all) => `(tactic| exact all_ne_of_lt (by assumption) (by first | exact Nat.le_refl _ | exact Nat.le_succ _ | omega))
local macro_rules | `(tactic| walk_at "call builtin:str.lower") => `(tactic| (refine PyProof.Rows.SCL.lower (by omega) ?_; intro _))
local macro_rules | `(tactic| walk_at "eval ListComp") => `(tactic| refine hold_intro ?_)
local macro_rules | `(tactic| walk_at "eval Slice none none none") => `(tactic| (refine slice_K (by assumption) (by assumption) ?_; intro sl' h' F' N'; (try k_sweep)))
local macro_rules | `(tactic| walk_at "setItem ref ref ref") => `(tactic| refine hold_intro ?_)
local macro_rules | `(tactic| walk_at "exec Assign cons ListComp") => `(tactic| ((with_reducible show wpAny _ _ (exec (Stmt.Assign [Expr.Subscript _ _ _] _ _) _) _ _ _); refine wpAny_Assign_Subscript ?_))
local macro_rules | `(tactic| walk_at "call builtin:len") => `(tactic| (refine' len_L ?N ?hl ?hs ?_; (case N => k_asm); (case hl => k_mem); (case hs => omega); intro t' tk'))
local macro_rules | `(tactic| walk_at "subscriptTail Name Slice ref ref") => `(tactic| ((with_reducible show wpAny _ _ (subscriptTail _ _ (Value.ref _) (Value.ref _)) _ _ _); refine' copy_L ?F ?N ?hl ?hs ?hz ?_ ?he; (case F => k_asm); (case N => k_asm); (case hl => k_mem); (case hs => exact List.Mem.head _); (case hz => rw [sizeLine_eq]; omega); (case he => with_unfolding_all rfl); intro D' h' F' N' l1'; (try k_sweep)))
local macro_rules | `(tactic| walk_at "enter_more") => `(tactic| (refine' kp_more ?k1 ?k2 ?k3 ?k4 ?k5 ?kA ?kF ?kK ?k6 ?k7 ?k8 ?kX ?kM ?kN ?kD ?kR ?kP ?kT ?kB ?_ ?c2 ?c3 ?c4 ?c5; (case kA => assumption); (case kF => assumption); (case kK => assumption); (case k1 => k_asm); (case k2 => k_asm); (case k3 => k_asm); (case k4 => k_asm); (case k5 => k_asm); (case k6 => k_is); (case k7 => k_is); (case k8 => k_room); (case kX => kp_lit); (case kM => exact rfl); (case kN => exact rfl); (case kD => kp_flats); (case kR => exact rfl); (case kP => exact rfl); (case kT => exact fun _ => rfl); (case kB => exact fun _ => locs rfl); (case c5 => decide); (case c2 => exact rfl); (case c3 => exact rfl); (case c4 => exact rfl); k_whole; intro D' o' g' L' h' tk' l1 lo' hs' fs' FG' F' N' B' X' T'; (try dsimp only); (try k_lift B'); (try k_fold)))
local macro_rules | `(tactic| walk_at "exec For Tuple Name") => `(tactic| refine hold_intro ?_)
local macro_rules | `(tactic| walk_at "exec For Tuple Call") => `(tactic| refine hold_intro ?_)
local macro_rules | `(tactic| walk_at "exec For Tuple Call cons nil") => `(tactic| refine hold_intro ?_)
local macro_rules | `(tactic| walk_at "exec For Tuple Name cons nil") => `(tactic| refine hold_intro ?_)
local macro_rules | `(tactic| walk_at "call builtin:list.append") => `(tactic| (refine' append_L ?F ?N ?hl ?_ ?hz; (case F => k_asm); (case N => k_asm); (case hl => k_mem); (case hz => (rw [sizeLine_eq]; omega)); intro h' F' N'))
local macro_rules | `(tactic| walk_at "mk_sit") => `(tactic| (refine' Sit.mk ?KX ?T ?B ?F ?N ?hA ?hf ?hke ?hroom ?hh; (case KX => k_asm); (case T => k_asm); (case B => k_asm); (case F => k_asm); (case N => k_asm); (case hA => first | with_reducible assumption | exact Around.frames_deeper (Below.stack (by with_reducible assumption)) | rfl); (case hf => first | with_reducible assumption | rfl); (case hke => first | with_reducible assumption | rfl); (case hroom => k_room); (case hh => first | with_reducible assumption | exact handled_deeper (by with_reducible assumption) | assumption | rfl)))
local macro_rules | `(tactic| walk_at "call ref") => `(tactic| ((with_reducible show wpAny _ _ (call (Value.ref 83) [_, Value.str _ _] (List.zip _ [Value.bool true])) _ _ _); k_dflt (refine' conv_name ?S ?ka ?kb ?_; (case S => walk_at "mk_sit"); (case ka => k_asm); (case kb => k_asm); k_whole); intro h' t' F' N'))
local macro_rules | `(tactic| walk_at "call ref") => `(tactic| ((with_reducible show wpAny _ _ (call (Value.ref 83) [_, Value.str _ _] (List.zip _ [Value.bool false])) _ _ _); k_dflt (refine' conv_val ?S ?ka ?kb ?_; (case S => walk_at "mk_sit"); (case ka => k_asm); (case kb => k_asm); k_whole); intro h' t' F' N'))
local macro_rules | `(tactic| walk_at "box") => `(tactic| first | with_reducible assumption | exact Box.tail (by with_reducible assumption) | exact Box.tail (Box.tail (by with_reducible assumption)) | exact Box.tail (Box.tail (Box.tail (by with_reducible assumption))) | exact Box.tail (Box.tail (Box.tail (Box.tail (by with_reducible assumption)))))
local macro_rules | `(tactic| k_mem) => `(tactic| first | with_reducible assumption | exact Box.hx (by with_reducible assumption) | exact Box.hd (by with_reducible assumption) | exact Box.hl (by with_reducible assumption) | exact List.Mem.head _ | (refine' List.Mem.tail _ ?_; k_mem) | (refine' Kept.mem (by with_reducible assumption) ?_ ?_; (k_mem); (first | with_reducible assumption | exact Ne.symm (by with_reducible assumption))))
local macro_rules | `(tactic| walk_at "call ref") => `(tactic| ((with_reducible show wpAny _ _ (call (Value.ref 102) [_, Value.str _ _] _) _ _ _); k_dflt (refine' box_del ?S ?B ?ka ?kb ?_; (case S => walk_at "mk_sit"); (case B => walk_at "box"); (case ka => walk_at "side"); (case kb => walk_at "side"); k_whole); intro h' t' n' its' k' F' N' K' B'))
local macro_rules | `(tactic| walk_at "call ref") => `(tactic| ((with_reducible show wpAny _ _ (call (Value.ref 121) [_, Value.str _ _] _) _ _ _); k_dflt (refine' box_get ?S ?B ?ka ?kb ?_; (case S => walk_at "mk_sit"); (case B => walk_at "box"); (case ka => walk_at "side"); (case kb => walk_at "side"); k_whole); intro D' h' t' ys' k' F' N' l1' e1'))
local macro_rules | `(tactic| walk_at "call ref") => `(tactic| ((with_reducible show wpAny _ _ (call (Value.ref 179) [_, Value.str _ _, Value.none] _) _ _ _); k_dflt (refine' box_none ?S ?B ?ka ?kb ?kc ?_; (case S => walk_at "mk_sit"); (case B => walk_at "box"); (case ka => walk_at "side"); (case kb => walk_at "side"); (case kc => walk_at "side"); k_whole); intro h' t' n' its' k' ty' F' N' K' B'))
local macro_rules | `(tactic| walk_at "call ref") => `(tactic| ((with_reducible show wpAny _ _ (call (Value.ref 179) [_, Value.str _ _, Value.str _ _] _) _ _ _); k_dflt (refine' box_str ?S ?B ?ka ?kb ?kc ?kd ?ke ?_; (case S => walk_at "mk_sit"); (case B => walk_at "box"); (case ka => walk_at "side"); (case kb => walk_at "side"); (case kc => walk_at "side"); (case kd => walk_at "side"); (case ke => walk_at "side"); k_whole); intro h' t' n' its' k' ty' F' N' K' B'))
local macro_rules | `(tactic| walk_at "call ref") => `(tactic| ((show wpAny _ _ (call (Value.ref 146) [Value.ref _]) _ _ _); k_dflt (refine' box_items ?S ?B ?_; (case S => walk_at "mk_sit"); (case B => walk_at "box"); k_whole); intro D' h' t' F' N' l1'))
local macro_rules | `(tactic| walk_at "side") => `(tactic| first | with_reducible assumption | decide | omega)
local macro_rules | `(tactic| walk_at "call builtin:len") => `(tactic| (k_dflt (refine' box_len ?S ?B ?_; (case S => walk_at "mk_sit"); (case B => walk_at "box"); k_whole); intro h' t' tk' F' N'))
local macro_rules | `(tactic| walk_at "call builtin:list.append") => `(tactic| (refine' append_K ?F ?N ?hl ?hz ?_; (case F => k_asm); (case N => k_asm); (case hl => k_mem); (case hz => (rw [sizeLine_eq]; first | omega | decide)); intro h' n' F' N' K' M'))
local macro_rules | `(tactic| walk_at "call builtin:list.append") => `(tactic| (refine' box_tell ?F ?N ?B ?ht ?hne ?hs ?_; (case F => k_asm); (case N => k_asm); (case B => walk_at "box"); (case ht => k_mem); (case hne => assumption); (case hs => walk_at "side"); intro h' n' F' N' K' M' B'))
local macro_rules | `(tactic| walk_at "call builtin:list.append") => `(tactic| (refine' box_append ?F ?N ?B ?ht ?hs ?hz ?_; (case F => k_asm); (case N => k_asm); (case B => walk_at "box"); (case ht => exact List.Mem.head _); (case hs => walk_at "side"); (case hz => walk_at "side"); intro h' n' F' N' K' B'))
local macro_rules | `(tactic| walk_at "exec For Name Call") => `(tactic| refine hold_intro ?_)
local macro_rules | `(tactic| walk_at "exec For Name Name") => `(tactic| refine hold_intro ?_)
local macro_rules | `(tactic| walk_at "exec For Name Name cons nil") => `(tactic| refine hold_intro ?_)
local macro_rules | `(tactic| walk_at "exec For Name Call cons nil") => `(tactic| refine hold_intro ?_)
local macro_rules | `(tactic| walk_at "kept2") => `(tactic| first | assumption | exact Kept2.start | (refine' Kept2.tail ?_; walk_at "kept2") | (refine' Kept2.left ?kz ?kw; (case kw => assumption); (case kz => walk_at "kept2")) | (refine' Kept2.right ?kz ?kw; (case kw => assumption); (case kz => walk_at "kept2")) | (refine' Kept2.both ?kz ?kw; (case kw => with_reducible assumption); (case kz => walk_at "kept2")))
local macro_rules | `(tactic| walk_at "agree") => `(tactic| first | assumption | exact Agree.start | (refine' Agree.set ?_ ?kw; (case kw => decide); walk_at "agree"))
local macro_rules | `(tactic| walk_at "delItem ref str") => `(tactic| (k_dflt (refine' delItem_own ?F ?X ?I ?hQ ?hS ?hF ?_; (case F => k_asm); (case X => k_asm); (case I => k_inst); (case hS => k_is); (case hF => k_is); (case hQ => k_is); k_whole)))
local macro_rules | `(tactic| walk_at "call builtin:len") => `(tactic| (refine' len_L ?N ?hl ?hs ?_; (case hl => k_mem); (case hs => with_reducible assumption); (case N => k_asm); intro t' tk'))
section
variable {w : World} {A A₀ : Around} {E : Value → Shared → Prop} {s : Shared} {h₀ base : Heap} {env : Env} {outer : List Env} {L x l d ln : Addr} {tl : Tok} {m mg mb : Str → Option Value} {news : List (Addr × Obj)}
   {p : Program} {loose : List Str} {mean : ExcName → Option Value} {Q : Value → Shared → Prop} {nm : Str} {tk : Tok} {its nits : Array Value} {n nn : Nat} {ps : List (Str × Value)}
theorem ones_str {tx : Tok} (S : Sit w A A₀ base h₀ env outer L m p loose mean mg mb news s.heap 20) (B : Box w news x l d tl its n ps) 
   (h : ∀ t h' t' news' its' n' a b, Fr h₀ L h' m → News h₀ L h' news' → Kept2 l t news news' → (∀ q ∈ news, q.1 < t) → Box w news' x l d tl its' n' (chL.foldl stepO (ps, [(ps.length : Int)])).1 → (t, listOf a b) ∈ news' → IntsAre a.toList (chL.foldl stepO (ps, [(ps.length : Int)])).2 → Q (.ref t) {s with heap := h', toks := t'}) :
   wpAny (model pg w) A (call (.ref 200) [.ref x, .str (Str.ofString "abcd") tx]) Q E s := by
  obtain ⟨KX, T, B', F, N, hA, hf, hke, hroom, hh⟩ := S
  refine wpAny_call ?_
  k_enter
  k_steps
  refine hold_elim ?_
  rename (∀ p ∈ news, p.1 < _) => hlt
  have hlt3 : l ≠ _ := Nat.ne_of_lt (hlt _ B.hl)
  refine wpAny_For ?_
  k_steps
  refine' loop_signs (S := [Str.ofString "name", Str.ofString "size"]) (R := fun i ps' ts' => (ps', ts') = (chL.take i).foldl stepO (ps, [(ps.length : Int)])) ?hh ?F ?N ?ha ?htg ?B ?ht ?hI ?hR ?turn ?done
  case hh => exact hh
  case F => k_asm
  case N => k_asm
  case ha => decide +kernel
  case htg => intro _ _; rfl
  case B => exact B.tail
  case ht => exact .head _
  case hI => exact .cons _ _ .nil
  case hR => rfl
  case turn =>
    intro i c v u n₁ h₂ tk₂ it ps' ts' its' n' a' k' e hR B' ht hI hK hit hi1 hi2 F' N'
    have ha := ch_at e
    obtain ⟨f1, f2, f3⟩ := ch_facts _ (List.mem_of_getElem? ha)
    have hlen : a'.size ≤ 1000 := by
      have e1 := congrArg (fun q => q.2.length) hR
      simp only [len_foldl, List.length_take, List.length_cons, List.length_nil] at e1
      have e2 := IntsAre.length hI
      rw [Array.length_toList] at e2
      have e3 : chL.length = 4 := rfl
      omega
    simp only [overL] at F'
    refine assign_name F' N' rfl rfl ?_
    intro h₃ tk₃ F' N'
    k_steps
    refine ⟨_, _, _, _, rfl, by assumption, by assumption, by k_mem, by walk_at "agree", by walk_at "kept2", _, _, ?_, ⟨_, _, by walk_at "box"⟩, _, _, by k_mem, intsAre_push hI⟩
    show (_, _) = (chL.take (i + 1)).foldl stepO _
    rw [take_step ha, ← hR, f1]
    rfl
  case done =>
    intro u n₁ h₂ tk₂ ps' ts' its' n' a' k' hR B' ht hI hK F' N'
    simp only [overL] at F'
    k_steps
    have e : chL.take (Str.ofString "abcd").cps.size = chL := by rfl
    rw [e] at hR
    exact h _ _ _ n₁ _ _ _ _ (by assumption) (by assumption) hK.of_cons hlt (by rw [← hR]; exact B') ht (by rw [← hR]; exact hI)
end
end Mine
namespace Mine
local macro_rules | `(tactic| k_room) => `(tactic| first | ((try simp only [depth_under_make, depth_under_kw, depth_in1, depth_deeper, depth_caller]); omega) | decide)
local macro_rules | `(tactic| k_enter) => `(tactic| (refine' code_def ?k1 ?k2 ?k3 ?k4 ?k5 ?kA ?kF ?kK ?k6 ?k7 ?k8 ?k9 ?kB ?_ ?c2 ?c3 ?c4 ?c5; (case k1 => k_asm); (case k2 => k_asm); (case k3 => k_asm); (case k4 => k_asm); (case k5 => k_asm); (case kA => assumption); (case kF => assumption); (case kK => assumption);  (case k6 => k_is); (case k7 => k_is); (case k8 => k_room); (case k9 => first | exact BindsTo.of_eq rfl | exact binds_K (by k_in) rfl (by k_is) rfl rfl rfl | fail "k_enter: no rule for these arguments"); (case c5 => decide); (case kB => exact locs rfl); (case c2 => exact rfl); (case c3 => exact rfl); (case c4 => exact rfl); k_whole; intro g' L' h' FG' F' N' B' X' T'; (try dsimp only); (try k_lift B'); (try k_fold)))
local macro_rules | `(tactic| k_enter) => `(tactic| (refine' code_defC ?k1 ?k2 ?k3 ?k4 ?k5 ?kA ?kF ?kK ?k6 ?k7 ?k8 ?k9 ?kB ?kD ?_ ?c2 ?c3 ?c4; (case k1 => k_asm); (case k2 => k_asm); (case k3 => k_asm); (case k4 => k_asm); (case k5 => k_asm); (case kA => assumption); (case kF => assumption); (case kK => assumption); (case k6 => k_is); (case k7 => k_is); (case k8 => k_room); (case k9 => first | exact BindsTo.of_eq rfl | exact binds_K (by k_in) rfl (by k_is) rfl rfl rfl | fail "k_enter: no rule for these arguments"); (case kB => exact rfl); (case kD => decide +kernel); (case c2 => exact rfl); (case c3 => exact rfl); (case c4 => exact rfl); k_whole; intro g' L' h' tk' cells' FG' F' N' Y' B' X' T' l1; k_cells Y'; (try simp only [List.cons_append, List.nil_append] at N'); (try dsimp only); (try k_lift B'); (try k_fold)))
local macro_rules | `(tactic| k_mem) => `(tactic| first | assumption | exact List.Mem.head _ | (refine' List.Mem.tail _ ?_; k_mem))
local macro_rules | `(tactic| k_all) => `(tactic| exact all_ne_of_lt (by assumption) (by first | exact Nat.le_refl _ | exact Nat.le_succ _ | omega))
local macro_rules | `(tactic| walk_at "call builtin:str.lower") => `(tactic| (refine PyProof.Rows.SCL.lower (by omega) ?_; intro _))
local macro_rules | `(tactic| walk_at "eval ListComp") => `(tactic| refine hold_intro ?_)
local macro_rules | `(tactic| walk_at "eval Slice none none none") => `(tactic| (refine slice_K (by assumption) (by assumption) ?_; intro sl' h' F' N'; (try k_sweep)))
local macro_rules | `(tactic| walk_at "setItem ref ref ref") => `(tactic| refine hold_intro ?_)
local macro_rules | `(tactic| walk_at "exec Assign cons ListComp") => `(tactic| ((with_reducible show wpAny _ _ (exec (Stmt.Assign [Expr.Subscript _ _ _] _ _) _) _ _ _); refine wpAny_Assign_Subscript ?_))
local macro_rules | `(tactic| walk_at "call builtin:len") => `(tactic| (refine' len_L ?N ?hl ?hs ?_; (case N => k_asm); (case hl => k_mem); (case hs => omega); intro t' tk'))
local macro_rules | `(tactic| walk_at "subscriptTail Name Slice ref ref") => `(tactic| ((with_reducible show wpAny _ _ (subscriptTail _ _ (Value.ref _) (Value.ref _)) _ _ _); refine' copy_L ?F ?N ?hl ?hs ?hz ?_ ?he; (case F => k_asm); (case N => k_asm); (case hl => k_mem); (case hs => exact List.Mem.head _); (case hz => rw [sizeLine_eq]; omega); (case he => with_unfolding_all rfl); intro D' h' F' N' l1'; (try k_sweep)))
local macro_rules | `(tactic| walk_at "enter_more") => `(tactic| (refine' kp_more ?k1 ?k2 ?k3 ?k4 ?k5 ?kA ?kF ?kK ?k6 ?k7 ?k8 ?kX ?kM ?kN ?kD ?kR ?kP ?kT ?kB ?_ ?c2 ?c3 ?c4 ?c5; (case kA => assumption); (case kF => assumption); (case kK => assumption); (case k1 => k_asm); (case k2 => k_asm); (case k3 => k_asm); (case k4 => k_asm); (case k5 => k_asm); (case k6 => k_is); (case k7 => k_is); (case k8 => k_room); (case kX => kp_lit); (case kM => exact rfl); (case kN => exact rfl); (case kD => kp_flats); (case kR => exact rfl); (case kP => exact rfl); (case kT => exact fun _ => rfl); (case kB => exact fun _ => locs rfl); (case c5 => decide); (case c2 => exact rfl); (case c3 => exact rfl); (case c4 => exact rfl); k_whole; intro D' o' g' L' h' tk' l1 lo' hs' fs' FG' F' N' B' X' T'; (try dsimp only); (try k_lift B'); (try k_fold)))
local macro_rules | `(tactic| walk_at "exec For Tuple Name") => `(tactic| refine hold_intro ?_)
local macro_rules | `(tactic| walk_at "exec For Tuple Call") => `(tactic| refine hold_intro ?_)
local macro_rules | `(tactic| walk_at "exec For Tuple Call cons nil") => `(tactic| refine hold_intro ?_)
local macro_rules | `(tactic| walk_at "exec For Tuple Name cons nil") => `(tactic| refine hold_intro ?_)
local macro_rules | `(tactic| walk_at "call builtin:list.append") => `(tactic| (refine' append_L ?F ?N ?hl ?_ ?hz; (case F => k_asm); (case N => k_asm); (case hl => k_mem); (case hz => (rw [sizeLine_eq]; omega)); intro h' F' N'))
local macro_rules | `(tactic| walk_at "mk_sit") => `(tactic| (refine' Sit.mk ?KX ?T ?B ?F ?N ?hA ?hf ?hke ?hroom ?hh; (case KX => k_asm); (case T => k_asm); (case B => k_asm); (case F => k_asm); (case N => k_asm); (case hA => first | with_reducible assumption | exact Around.frames_deeper (Below.stack (by with_reducible assumption)) | rfl); (case hf => first | with_reducible assumption | rfl); (case hke => first | with_reducible assumption | rfl); (case hroom => k_room); (case hh => first | with_reducible assumption | exact handled_deeper (by with_reducible assumption) | assumption | rfl)))
local macro_rules | `(tactic| walk_at "call ref") => `(tactic| ((with_reducible show wpAny _ _ (call (Value.ref 83) [_, Value.str _ _] (List.zip _ [Value.bool true])) _ _ _); k_dflt (refine' conv_name ?S ?ka ?kb ?_; (case S => walk_at "mk_sit"); (case ka => k_asm); (case kb => k_asm); k_whole); intro h' t' F' N'))
local macro_rules | `(tactic| walk_at "call ref") => `(tactic| ((with_reducible show wpAny _ _ (call (Value.ref 83) [_, Value.str _ _] (List.zip _ [Value.bool false])) _ _ _); k_dflt (refine' conv_val ?S ?ka ?kb ?_; (case S => walk_at "mk_sit"); (case ka => k_asm); (case kb => k_asm); k_whole); intro h' t' F' N'))
local macro_rules | `(tactic| walk_at "box") => `(tactic| first | with_reducible assumption | exact Box.tail (by with_reducible assumption) | exact Box.tail (Box.tail (by with_reducible assumption)) | exact Box.tail (Box.tail (Box.tail (by with_reducible assumption))) | exact Box.tail (Box.tail (Box.tail (Box.tail (by with_reducible assumption)))))
local macro_rules | `(tactic| k_mem) => `(tactic| first | with_reducible assumption | exact Box.hx (by with_reducible assumption) | exact Box.hd (by with_reducible assumption) | exact Box.hl (by with_reducible assumption) | exact List.Mem.head _ | (refine' List.Mem.tail _ ?_; k_mem) | (refine' Kept.mem (by with_reducible assumption) ?_ ?_; (k_mem); (first | with_reducible assumption | exact Ne.symm (by with_reducible assumption))))
local macro_rules | `(tactic| walk_at "call ref") => `(tactic| ((with_reducible show wpAny _ _ (call (Value.ref 102) [_, Value.str _ _] _) _ _ _); k_dflt (refine' box_del ?S ?B ?ka ?kb ?_; (case S => walk_at "mk_sit"); (case B => walk_at "box"); (case ka => walk_at "side"); (case kb => walk_at "side"); k_whole); intro h' t' n' its' k' F' N' K' B'))
local macro_rules | `(tactic| walk_at "call ref") => `(tactic| ((with_reducible show wpAny _ _ (call (Value.ref 121) [_, Value.str _ _] _) _ _ _); k_dflt (refine' box_get ?S ?B ?ka ?kb ?_; (case S => walk_at "mk_sit"); (case B => walk_at "box"); (case ka => walk_at "side"); (case kb => walk_at "side"); k_whole); intro D' h' t' ys' k' F' N' l1' e1'))
local macro_rules | `(tactic| walk_at "call ref") => `(tactic| ((with_reducible show wpAny _ _ (call (Value.ref 179) [_, Value.str _ _, Value.none] _) _ _ _); k_dflt (refine' box_none ?S ?B ?ka ?kb ?kc ?_; (case S => walk_at "mk_sit"); (case B => walk_at "box"); (case ka => walk_at "side"); (case kb => walk_at "side"); (case kc => walk_at "side"); k_whole); intro h' t' n' its' k' ty' F' N' K' B'))
local macro_rules | `(tactic| walk_at "call ref") => `(tactic| ((with_reducible show wpAny _ _ (call (Value.ref 179) [_, Value.str _ _, Value.str _ _] _) _ _ _); k_dflt (refine' box_str ?S ?B ?ka ?kb ?kc ?kd ?ke ?_; (case S => walk_at "mk_sit"); (case B => walk_at "box"); (case ka => walk_at "side"); (case kb => walk_at "side"); (case kc => walk_at "side"); (case kd => walk_at "side"); (case ke => walk_at "side"); k_whole); intro h' t' n' its' k' ty' F' N' K' B'))
local macro_rules | `(tactic| walk_at "call ref") => `(tactic| ((show wpAny _ _ (call (Value.ref 146) [Value.ref _]) _ _ _); k_dflt (refine' box_items ?S ?B ?_; (case S => walk_at "mk_sit"); (case B => walk_at "box"); k_whole); intro D' h' t' F' N' l1'))
local macro_rules | `(tactic| walk_at "side") => `(tactic| first | with_reducible assumption | decide | omega)
local macro_rules | `(tactic| walk_at "call builtin:len") => `(tactic| (k_dflt (refine' box_len ?S ?B ?_; (case S => walk_at "mk_sit"); (case B => walk_at "box"); k_whole); intro h' t' tk' F' N'))
local macro_rules | `(tactic| walk_at "call builtin:list.append") => `(tactic| (refine' append_K ?F ?N ?hl ?hz ?_; (case F => k_asm); (case N => k_asm); (case hl => k_mem); (case hz => (rw [sizeLine_eq]; first | omega | decide)); intro h' n' F' N' K' M'))
local macro_rules | `(tactic| walk_at "call builtin:list.append") => `(tactic| (refine' box_tell ?F ?N ?B ?ht ?hne ?hs ?_; (case F => k_asm); (case N => k_asm); (case B => walk_at "box"); (case ht => k_mem); (case hne => assumption); (case hs => walk_at "side"); intro h' n' F' N' K' M' B'))
local macro_rules | `(tactic| walk_at "call builtin:list.append") => `(tactic| (refine' box_append ?F ?N ?B ?ht ?hs ?hz ?_; (case F => k_asm); (case N => k_asm); (case B => walk_at "box"); (case ht => exact List.Mem.head _); (case hs => walk_at "side"); (case hz => walk_at "side"); intro h' n' F' N' K' B'))
local macro_rules | `(tactic| walk_at "exec For Name Call") => `(tactic| refine hold_intro ?_)
local macro_rules | `(tactic| walk_at "exec For Name Name") => `(tactic| refine hold_intro ?_)
local macro_rules | `(tactic| walk_at "exec For Name Name cons nil") => `(tactic| refine hold_intro ?_)
local macro_rules | `(tactic| walk_at "exec For Name Call cons nil") => `(tactic| refine hold_intro ?_)
local macro_rules | `(tactic| walk_at "kept2") => `(tactic| first | assumption | exact Kept2.start | (refine' Kept2.tail ?_; walk_at "kept2") | (refine' Kept2.left ?kz ?kw; (case kw => assumption); (case kz => walk_at "kept2")) | (refine' Kept2.right ?kz ?kw; (case kw => assumption); (case kz => walk_at "kept2")) | (refine' Kept2.both ?kz ?kw; (case kw => with_reducible assumption); (case kz => walk_at "kept2")))
local macro_rules | `(tactic| walk_at "agree") => `(tactic| first | assumption | exact Agree.start | (refine' Agree.set ?_ ?kw; (case kw => decide); walk_at "agree"))
local macro_rules | `(tactic| walk_at "delItem ref str") => `(tactic| (k_dflt (refine' delItem_own ?F ?X ?I ?hQ ?hS ?hF ?_; (case F => k_asm); (case X => k_asm); (case I => k_inst); (case hS => k_is); (case hF => k_is); (case hQ => k_is); k_whole)))
local macro_rules | `(tactic| walk_at "call builtin:len") => `(tactic| (refine' len_L ?N ?hl ?hs ?_; (case hl => k_mem); (case hs => with_reducible assumption); (case N => k_asm); intro t' tk'))
section
variable {w : World} {A A₀ : Around} {E : Value → Shared → Prop} {s : Shared} {h₀ base : Heap} {env : Env} {outer : List Env} {L x l d lc : Addr} {tl : Tok} {m mg mb : Str → Option Value} {news : List (Addr × Obj)}
   {p : Program} {loose : List Str} {mean : ExcName → Option Value} {Q : Value → Shared → Prop} {nm : Str} {tk : Tok} {its cits : Array Value} {n cn : Nat} {ps : List (Str × Value)} {cs : List Int}
theorem int_item {i : Nat} {c : Int} {value slice : Expr} {u : Tok} {Q : Value → Shared → Prop} (N : News h₀ L s.heap news) (hl : (lc, listOf cits cn) ∈ news) (hi : IntsAre cits.toList cs) (hc : cs[i]? = some c) (hb : i < 1000)
    (h : ∀ t', Q (.int c t') s) (hs : subscripted slice false (.ref lc) (.int i u) = operate [.ref lc, .int i u] (getItem (.ref lc) (.int i u)) := by with_unfolding_all rfl) (hg : ∀ r, letTemporaryGo value (.ref lc) r = pure () := by intro _; with_unfolding_all rfl) :
    wpAny (model pg w) A (subscriptTail value slice (.ref lc) (.int (i : Nat) u)) Q E s := by
  obtain ⟨t, e⟩ : ∃ t, cits.toList[i]? = some (.int c t) := by
    clear h hl hs hg hb
    generalize cits.toList = vs at hi
    induction hi generalizing i with
    | nil => simp at hc
    | cons y t _ ih =>
      cases i with
      | zero => cases hc; exact ⟨t, rfl⟩
      | succ j => exact ih hc
  exact item_listL (l := cits.toList) (x := .int c t) (kso_isList N hl rfl) (by omega) (by omega) (by exact e) (h t) hs hg
theorem max_own {Q : Value → Shared → Prop} (F : Fr h₀ L s.heap m) (N : News h₀ L s.heap news) (hl : (lc, listOf cits cn) ∈ news) (hi : IntsAre cits.toList cs) (hne : 0 < cs.length) (hh : A.handled = none)
    (h : ∀ h' M (t : Tok) tk, Fr h₀ L h' m → News h₀ L h' news → M ∈ cs → (∀ a, a ∈ cs → a ≤ M) → Q (.int M t) { s with heap := h', toks := tk }) : wpAny (model pg w) A (call (.builtin "max") [.ref lc]) Q E s :=
  kso_max F N (kso_isList N hl rfl) hi hne hh h
local macro_rules | `(tactic| walk_at "call builtin:max") => `(tactic| (refine' max_own ?F ?N ?hl ?hi ?hne ?hh ?_; (case F => k_asm); (case N => k_asm); (case hl => k_mem); (case hi => with_reducible assumption); (case hne => with_reducible assumption); (case hh => first | with_reducible assumption | exact handled_deeper (by with_reducible assumption)); intro h' M' t' k' F' N' a' b'))
local macro_rules | `(tactic| walk_at "subscriptTail Name Name ref int") => `(tactic| (refine' int_item ?N ?hl ?hi ?hc ?hb ?_; (case N => k_asm); (case hl => k_mem); (case hi => with_reducible assumption); (case hc => with_reducible assumption); (case hb => with_reducible assumption); intro t'))
theorem getD_small (hb : ∀ c ∈ cs, (0 : Int) ≤ c ∧ c ≤ 8) (i : Nat) : (cs.getD i 0).toNat ≤ 8 := by
  rw [List.getD]
  cases e : cs[i]? with
  | none => decide
  | some c => have := hb c (List.mem_of_getElem? e); show c.toNat ≤ 8; omega
theorem all_le {k : Nat} (h4 : cs.length = 4) (hb : ∀ c ∈ cs, (0 : Int) ≤ c ∧ c ≤ 8) (i : Nat) (hi : i < 4) (h : ∀ a ∈ cs, a ≤ (k : Int)) : (cs.getD i 0).toNat ≤ k := by
  rw [List.getD]
  cases e : cs[i]? with
  | none => exact Nat.zero_le _
  | some c => have := h c (List.mem_of_getElem? e); show c.toNat ≤ k; omega
local macro_rules | `(tactic| walk_at "subscriptTail Name BinOp ref int") => `(tactic| (refine' two_item ?N ?hl ?hi ?_; (case N => k_asm); (case hl => exact List.Mem.head _); (case hi => with_reducible assumption); intro y' t' o'))
local macro_rules | `(tactic| walk_at "subscriptTail") => `(tactic| (refine' two_item ?N ?hl ?hi ?_; (case N => k_asm); (case hl => exact List.Mem.head _); (case hi => with_reducible assumption); intro y' t' o'))
local macro_rules | `(tactic| walk_at "call builtin:list.append") => `(tactic| (refine' pair_append ?F ?N ?hl ?P ?ht ?hsm ?hs ?_; (case F => k_asm); (case N => k_asm); (case hl => k_mem); (case P => first | with_reducible assumption | exact PairsN.mono (by with_reducible assumption) (fun _ h => .tail _ h) | exact PairsN.mono (by with_reducible assumption) (fun _ h => .tail _ (.tail _ h))); (case ht => exact List.Mem.head _); (case hsm => with_reducible assumption); (case hs => with_reducible assumption); intro h' n' F' N' K' M' P'))
local macro_rules | `(tactic| walk_at "call ref") => `(tactic| ((with_reducible show wpAny _ _ (call (Value.ref 182) [Value.ref _] _) _ _ _); k_dflt (refine' box_init ?S ?hl ?P ?hg ?hs ?_; (case S => walk_at "mk_sit"); (case hl => k_mem); (case P => with_reducible assumption); (case hg => with_reducible assumption); (case hs => with_reducible assumption); k_whole); intro x' d' h' t' tl' n' F' N' K' B'))
local macro_rules | `(tactic| walk_at "call ref") => `(tactic| ((with_reducible show wpAny _ _ (call (Value.ref 200) [Value.ref _, Value.str _ _] _) _ _ _); k_dflt (refine' ones_str ?S ?B ?_; (case S => walk_at "mk_sit"); (case B => walk_at "box"); k_whole); intro t2' h' t' n' its' k' a' b' F' N' K' l2' B' M' I'))
local macro_rules | `(tactic| walk_at "callWith ref") => `(tactic| ((show wpAny _ _ (call (Value.ref 146) [Value.ref _]) _ _ _); k_dflt (refine' box_items ?S ?B ?_; (case S => walk_at "mk_sit"); (case B => walk_at "box"); k_whole); intro D' h' t' F' N' l1'))
theorem lawbox_spec {turn : Int} {tt : Tok} (S : Sit w A A₀ base h₀ env outer L m p loose mean mg mb news s.heap 40) (hlc : (lc, listOf cits cn) ∈ news) (hcs : IntsAre cits.toList cs) (h4 : cs.length = 4) (hb : ∀ c ∈ cs, 0 ≤ c ∧ c ≤ 8) 
   (h : ∀ T D1 D2 h' t' news' a1 b1 a2 b2, Fr h₀ L h' m → News h₀ L h' news' → (∀ q ∈ news, q ∈ news') → (T, ({ cls := .type "tuple", data := .seq #[.ref D1, .ref D2] } : Obj)) ∈ news' → (D1, listOf a1 b1) ∈ news' → IntsAre a1.toList (sortI (lossTo (fun i => ((cs.getD i 0).toNat : Int)) 4)) → (D2, listOf a2 b2) ∈ news' →
     IntsAre a2.toList [(((cs.getD 0 0).toNat + (cs.getD 1 0).toNat + (cs.getD 2 0).toNat + (cs.getD 3 0).toNat : Nat) : Int), ((cs.getD 0 0).toNat : Int), ((cs.getD 1 0).toNat : Int), ((cs.getD 2 0).toNat : Int), ((cs.getD 3 0).toNat : Int)] → Q (.ref T) {s with heap := h', toks := t'}) :
   wpAny (model pg w) A (call (.ref 207) [.ref lc, .int turn tt]) Q E s := by
  obtain ⟨KX, T, B', F, N, hA, hf, hke, hroom, hh⟩ := S
  have hne4 : 0 < cs.length := by omega
  refine wpAny_call ?_
  k_enter
  k_steps
  refine hold_elim ?_
  rename (∀ p ∈ news, p.1 < _) => hlt
  have hlt4 : lc ≠ _ := Nat.ne_of_lt (hlt _ hlc)
  refine wpAny_For ?_
  k_steps
  rename IsRange _ _ _ _ _ _ _ _ => hr
  obtain ⟨N₁, hN₁⟩ : ∃ k : Nat, _ = (k : Int) := Int.eq_ofNat_of_zero_le (hb _ (by with_reducible assumption)).1
  subst hN₁
  have hN8 : (N₁ : Int) ≤ 8 := (hb _ (by with_reducible assumption)).2
  refine' loop_pairs (S := [Str.ofString "k", Str.ofString "j"]) (N₁ := N₁) (R := fun k ps => Word (laid (fun i => (cs.getD i 0).toNat) k 0) ps) ?hh ?F ?N hr ?hsm ?hn ?htg ?hg ?hP ?hR ?turn ?done
  case hh => exact hh
  case F => k_asm
  case N => k_asm
  case hsm => exact small_one (by omega) (by omega) (by omega) (by omega)
  case hn => first | exact rangeSize_nat _ _ | rfl
  case htg => intro _ _; rfl
  case hg => exact .head _
  case hP => exact .nil
  case hR => exact ⟨(fun _ h => nomatch h), fun i hi => by show 0 = _; unfold laid; rw [if_neg (by omega)]; omega, by unfold laid; simp⟩
  case turn =>
    intro k tv u n₁ h₂ tk₂ it ps' its' k' e hR hg hP hK hit hi1 F' N'
    have hc1 := hK.mem (.tail _ hlc) hlt4
    simp only [overL] at F'
    rw [Int.zero_add]
    refine assign_name F' N' rfl rfl ?_
    intro h₃ tk₃ F' N'
    k_steps
    refine hold_elim ?_
    refine wpAny_For ?_
    k_steps
    rename IsRange _ _ _ _ _ _ _ _ => hr'
    refine' loop_pairs (S := [Str.ofString "j"]) (N₁ := 4) (R := fun j ps => Word (laid (fun i => (cs.getD i 0).toNat) k j) ps) ?hh2 ?F2 ?N2 hr' ?hsm2 ?hn2 ?htg2 ?hg2 ?hP2 ?hR2 ?turn2 ?done2
    case hh2 => exact hh
    case F2 => k_asm
    case N2 => k_asm
    case hsm2 => decide
    case hn2 => decide
    case htg2 => intro _ _; rfl
    case hg2 => exact hg
    case hP2 => exact hP
    case hR2 => exact hR
    case turn2 =>
      intro j tv u n₁ h₂ tk₂ it' ps' its' k' e' hR hg hP hK' hit' hi1' F' N'
      have hc2 := hK'.mem hc1 hlt4
      obtain ⟨c, hc⟩ : ∃ c, cs[j]? = some c := ⟨_, List.getElem?_eq_getElem (by omega)⟩
      have hj1 : j < 1000 := by omega
      simp only [overL] at F'
      rw [Int.zero_add]
      refine assign_name F' N' rfl rfl ?_
      intro h₃ tk₃ F' N'
      have hkm := fmod2 (k : Int)
      obtain ⟨m1, m2, m3⟩ := mix_at e' ((k : Int) + j + turn)
      have hcf : cs.getD j 0 = c := by simp [List.getD, hc]
      have hz : ps'.length < 1000 := by
        have q := fun i => laid_le (fun i => (cs.getD i 0).toNat) k j i
        have q0 := q 0; have q1 := q 1; have q2 := q 2; have q3 := q 3
        have b := fun i => getD_small hb i
        have b0 := b 0; have b1 := b 1; have b2 := b 2; have b3 := b 3
        have := hR.2.2
        try dsimp only at q0 q1 q2 q3 this
        omega
      k_steps
      · refine ⟨_, _, _, _, rfl, by assumption, by assumption, by k_mem, by walk_at "agree", hK'.thru (by assumption) (fun p hp => .tail _ (.tail _ hp)), _, _, _, ?_, by k_mem, by assumption⟩
        obtain ⟨v1, v2⟩ := val_facts (by assumption)
        have hck : (k : Int) < c := by first | assumption | omega
        obtain ⟨w1, w2⟩ := laid_take (c := fun i => (cs.getD i 0).toNat) (k := k) (j := j) (by show k < (cs.getD j 0).toNat; rw [hcf]; omega)
        exact hR.push e' m1 m3 v1 v2 w1 w2
      · have hck : ¬ (k : Int) < c := by first | assumption | omega
        refine ⟨_, _, _, _, rfl, by assumption, by assumption, hit', by walk_at "agree", hK', _, _, _, ?_, hg, hP⟩
        exact hR.congr (laid_skip (by show (cs.getD j 0).toNat ≤ k; rw [hcf]; omega))
    case done2 =>
      intro u n₁ h₂ tk₂ ps' its' k' hR hg hP hK' F' N'
      have hit4 := hK'.mem (a := it.1) (o := it.2) hit hi1
      simp only [overL] at F'
      k_steps
      refine ⟨_, _, _, _, rfl, by assumption, by assumption, hit4, by walk_at "agree", hK.thru hK' (fun _ h => h), _, _, _, ?_, hg, hP⟩
      exact hR.congr (laid_next _ k)
  case done =>
    intro u n₁ h₂ tk₂ ps' its' k' hR hg hP hK F' N'
    have hR := hR.congr (f' := fun i => (cs.getD i 0).toNat) (fun i hi => (laid_end (c := fun i => (cs.getD i 0).toNat) (all_le h4 hb i hi (by with_reducible assumption))).symm)
    have hz : ps'.length ≤ 1000 := by
      have b := fun i => getD_small hb i
      have b0 := b 0; have b1 := b 1; have b2 := b 2; have b3 := b 3
      have := hR.2.2
      try dsimp only at this
      omega
    have hgd := hR.1
    simp only [overL] at F'
    k_steps
    refine hold_elim ?_
    rename Box _ _ _ _ _ _ _ _ _ => B4
    rename (∀ q : Addr × Obj, q ∈ n₁ → q ∈ _) => hsubN
    have hs0 := fun q (hq : q ∈ news) => hsubN q (hK q (.tail _ hq) (Nat.ne_of_lt (hlt q hq)))
    rename (_ ∧ AllLt _ _) => z2
    have d1 := lt_fresh (by with_reducible assumption) B4.hl
    have d2 := lt_fresh (kst_ltOf z2.2) B4.hl
    have d3 := z2.1
    have hl1 := Nat.ne_of_lt d2
    have hk1 := Nat.ne_of_gt d1
    have hk2 := Nat.ne_of_lt d3
    have hPP := fun n'' => kept2_pairs (n' := n'') (by with_reducible assumption) (.tail _ (.tail _ B4.hl)) (.head _) (B4.P.mono fun q hq => .tail _ (.tail _ hq))
    refine wpAny_For ?_
    k_steps
    rename IsRange _ _ _ _ _ _ _ _ => hr2
    refine' loop_range (S := [Str.ofString "k", Str.ofString "j", Str.ofString "size"]) (N₁ := 4) (R := fun k ps2 ts2 => ps2 = ps' ∧ ts2 = lossTo (fun i => ((cs.getD i 0).toNat : Int)) k) ?hh3 ?F3 ?N3 hr2 ?hsm3 ?hn3 ?htg3 ?B3 ?ht3 ?hI3 ?hR3 ?turn3 ?done3
    case hh3 => exact hh
    case F3 => k_asm
    case N3 => k_asm
    case hsm3 => decide
    case hn3 => decide
    case htg3 => intro _ _; rfl
    case B3 => exact B4.tail.tail
    case ht3 => exact .head _
    case hI3 => exact .nil
    case hR3 => exact ⟨rfl, rfl⟩
    case turn3 =>
      intro k tv u n₁ h₂ tk₂ it ps2 ts2 its2 n2 a2 k2 e hR2 B5 ht hI hK hit hi1 hi2 F' N'
      obtain ⟨rfl, hts⟩ := hR2
      obtain ⟨p1, p2, p3⟩ := low_at e
      have hm1 := hK.mem (.tail _ (.head _)) hk1 hk2
      simp only [overL] at F'
      rw [Int.zero_add]
      refine assign_name F' N' rfl rfl ?_
      intro h₃ tk₃ F' N'
      k_steps
      refine hold_elim ?_
      refine wpAny_For ?_
      k_steps
      rename IsRange _ _ _ _ _ _ _ _ => hr3
      refine' loop_range (S := [Str.ofString "j", Str.ofString "size"]) (N₁ := k) (R := fun j ps3 ts3 => ps3 = ps2 ∧ ts3 = lossTo (fun i => ((cs.getD i 0).toNat : Int)) k ++ lossRow (fun i => ((cs.getD i 0).toNat : Int)) k j) ?hh4 ?F4 ?N4 hr3 ?hsm4 ?hn4 ?htg4 ?B4 ?ht4 ?hI4 ?hR4 ?turn4 ?done4
      case hh4 => exact hh
      case F4 => k_asm
      case N4 => k_asm
      case hsm4 => exact small_one (by omega) (by omega) (by omega) (by omega)
      case hn4 => first | exact rangeSize_nat _ _ | rfl
      case htg4 => intro _ _; rfl
      case B4 => exact B5
      case ht4 => exact ht
      case hI4 => exact hI
      case hR4 => exact ⟨rfl, by rw [hts]; exact (List.append_nil _).symm⟩
      case turn4 =>
        intro j tv u n₁ h₂ tk₂ it' ps3 ts3 its3 n3 a3 k3 e' hR3 B6 ht hI hK' hit' hi1' hi2' F' N'
        obtain ⟨rfl, hts⟩ := hR3
        obtain ⟨m1, m2, m3⟩ := cap_at (Nat.lt_trans e' e)
        have hm2 := hK'.mem hm1 hk1 hk2
        have hlen : a3.size ≤ 1000 := by
          have q1 := IntsAre.length hI
          have q2 := loss_small (fun i => ((cs.getD i 0).toNat : Int)) (Nat.lt_succ_of_lt e) (Nat.le_of_lt e')
          rw [← hts] at q2
          rw [Array.length_toList] at q1
          omega
        simp only [overL] at F'
        rw [Int.zero_add]
        refine assign_name F' N' rfl rfl ?_
        intro h₃ tk₃ F' N'
        k_steps
        refine hold_elim ?_
        refine' box_reset ?F5 ?N5 ?B5 ?hD5 ?hs5 hk1.symm ?P5 ?hz5 ?h5
        case F5 => k_asm
        case N5 => k_asm
        case B5 => walk_at "box"
        case hD5 => k_mem
        case hs5 => exact .head _
        case P5 => exact hPP _ (by walk_at "kept2")
        case hz5 => exact hz
        case h5 =>
          intro h' n' k' F' N' K' B7
          k_steps
          refine ⟨_, _, _, _, rfl, by assumption, by assumption, by k_mem, by walk_at "agree", by walk_at "kept2", _, _, ?_, ⟨_, _, B7⟩, _, _, by k_mem, intsAre_push hI⟩
          refine ⟨rfl, ?_⟩
          rw [hts, lossRow_succ, List.append_assoc]
          have e5 := two_lost hR (Nat.lt_trans e' e) e (by omega)
          show _ ++ (_ ++ [_]) = _ ++ (_ ++ [_])
          rw [m1, p1]
          exact congrArg (fun z => _ ++ (_ ++ [z])) e5
      case done4 =>
        intro u n₁ h₂ tk₂ ps3 ts3 its3 n3 a3 k3 hR3 B6 ht hI hK' F' N'
        obtain ⟨rfl, hts⟩ := hR3
        have hit4 := Kept2.mem hK' (a := it.1) (o := it.2) hit hi1 hi2
        simp only [overL] at F'
        k_steps
        refine ⟨_, _, _, _, rfl, by assumption, by assumption, hit4, by walk_at "agree", hK.both hK', _, _, ?_, ⟨_, _, B6⟩, _, _, ht, hI⟩
        exact ⟨rfl, hts⟩
    case done3 =>
      intro u n₁ h₂ tk₂ ps2 ts2 its2 n2 a2 k2 hR2 B5 ht hI hK F' N'
      obtain ⟨rfl, hts⟩ := hR2
      simp only [overL] at F'
      k_steps
      refine sort_own (by k_asm) (by k_asm) ht hI (by rw [hts, (lossTo_len _).2.2.2.2.1]; decide) ?_
      intro D a4 c4 h₃ F' N' l1 i1
      k_steps
      rename Kept2 _ _ _ _ => K9
      rename (∀ q : Addr × Obj, q ∈ _ :: _ → q.1 < _) => z9
      rename ((_, listOf _ _) ∈ _) => M9
      rename IntsAre _ _ => I9
      have hs1 := fun q (hq : q ∈ news) => hK q (.tail _ (.tail _ (hs0 q hq))) (Nat.ne_of_lt (hlt q hq)) (Nat.ne_of_lt (Nat.lt_trans (hlt q hq) d2))
      have hs2 := fun q (hq : q ∈ news) => K9 q (.tail _ (hs1 q hq)) (Nat.ne_of_lt (hlt q hq)) (Nat.ne_of_lt (z9 q (.tail _ (hs1 q hq))))
      have hD2 := K9 _ (.head _) (Nat.ne_of_gt (l1 _ B5.hl)) (Nat.ne_of_lt (z9 _ (.head _)))
      rw [ones_word hR] at I9
      rw [hts] at i1
      exact h _ _ _ _ _ _ _ _ _ _ (by assumption) (by assumption) (fun q hq => .tail _ (hs2 q hq)) (.head _) (.tail _ hD2) i1 (.tail _ M9) I9
end
end Mine
namespace Mine
local macro_rules | `(tactic| k_room) => `(tactic| first | ((try simp only [depth_under_make, depth_under_kw, depth_in1, depth_deeper, depth_caller]); omega) | decide)
local macro_rules | `(tactic| k_enter) => `(tactic| (refine' code_def ?k1 ?k2 ?k3 ?k4 ?k5 ?kA ?kF ?kK ?k6 ?k7 ?k8 ?k9 ?kB ?_ ?c2 ?c3 ?c4 ?c5; (case k1 => k_asm); (case k2 => k_asm); (case k3 => k_asm); (case k4 => k_asm); (case k5 => k_asm); (case kA => assumption); (case kF => assumption); (case kK => assumption);  (case k6 => k_is); (case k7 => k_is); (case k8 => k_room); (case k9 => first | exact BindsTo.of_eq rfl | exact binds_K (by k_in) rfl (by k_is) rfl rfl rfl | fail "k_enter: no rule for these arguments"); (case c5 => decide); (case kB => exact locs rfl); (case c2 => exact rfl); (case c3 => exact rfl); (case c4 => exact rfl); k_whole; intro g' L' h' FG' F' N' B' X' T'; (try dsimp only); (try k_lift B'); (try k_fold)))
local macro_rules | `(tactic| k_enter) => `(tactic| (refine' code_defC ?k1 ?k2 ?k3 ?k4 ?k5 ?kA ?kF ?kK ?k6 ?k7 ?k8 ?k9 ?kB ?kD ?_ ?c2 ?c3 ?c4; (case k1 => k_asm); (case k2 => k_asm); (case k3 => k_asm); (case k4 => k_asm); (case k5 => k_asm); (case kA => assumption); (case kF => assumption); (case kK => assumption); (case k6 => k_is); (case k7 => k_is); (case k8 => k_room); (case k9 => first | exact BindsTo.of_eq rfl | exact binds_K (by k_in) rfl (by k_is) rfl rfl rfl | fail "k_enter: no rule for these arguments"); (case kB => exact rfl); (case kD => decide +kernel); (case c2 => exact rfl); (case c3 => exact rfl); (case c4 => exact rfl); k_whole; intro g' L' h' tk' cells' FG' F' N' Y' B' X' T' l1; k_cells Y'; (try simp only [List.cons_append, List.nil_append] at N'); (try dsimp only); (try k_lift B'); (try k_fold)))
local macro_rules | `(tactic| k_mem) => `(tactic| first | assumption | exact List.Mem.head _ | (refine' List.Mem.tail _ ?_; k_mem))
local macro_rules | `(tactic| k_all) => `(tactic| exact all_ne_of_lt (by assumption) (by first | exact Nat.le_refl _ | exact Nat.le_succ _ | omega))
local macro_rules | `(tactic| walk_at "call builtin:str.lower") => `(tactic| (refine PyProof.Rows.SCL.lower (by omega) ?_; intro _))
local macro_rules | `(tactic| walk_at "eval ListComp") => `(tactic| refine hold_intro ?_)
local macro_rules | `(tactic| walk_at "eval Slice none none none") => `(tactic| (refine slice_K (by assumption) (by assumption) ?_; intro sl' h' F' N'; (try k_sweep)))
local macro_rules | `(tactic| walk_at "setItem ref ref ref") => `(tactic| refine hold_intro ?_)
local macro_rules | `(tactic| walk_at "exec Assign cons ListComp") => `(tactic| ((with_reducible show wpAny _ _ (exec (Stmt.Assign [Expr.Subscript _ _ _] _ _) _) _ _ _); refine wpAny_Assign_Subscript ?_))
local macro_rules | `(tactic| walk_at "call builtin:len") => `(tactic| (refine' len_L ?N ?hl ?hs ?_; (case N => k_asm); (case hl => k_mem); (case hs => omega); intro t' tk'))
local macro_rules | `(tactic| walk_at "subscriptTail Name Slice ref ref") => `(tactic| ((with_reducible show wpAny _ _ (subscriptTail _ _ (Value.ref _) (Value.ref _)) _ _ _); refine' copy_L ?F ?N ?hl ?hs ?hz ?_ ?he; (case F => k_asm); (case N => k_asm); (case hl => k_mem); (case hs => exact List.Mem.head _); (case hz => rw [sizeLine_eq]; omega); (case he => with_unfolding_all rfl); intro D' h' F' N' l1'; (try k_sweep)))
local macro_rules | `(tactic| walk_at "enter_more") => `(tactic| (refine' kp_more ?k1 ?k2 ?k3 ?k4 ?k5 ?kA ?kF ?kK ?k6 ?k7 ?k8 ?kX ?kM ?kN ?kD ?kR ?kP ?kT ?kB ?_ ?c2 ?c3 ?c4 ?c5; (case kA => assumption); (case kF => assumption); (case kK => assumption); (case k1 => k_asm); (case k2 => k_asm); (case k3 => k_asm); (case k4 => k_asm); (case k5 => k_asm); (case k6 => k_is); (case k7 => k_is); (case k8 => k_room); (case kX => kp_lit); (case kM => exact rfl); (case kN => exact rfl); (case kD => kp_flats); (case kR => exact rfl); (case kP => exact rfl); (case kT => exact fun _ => rfl); (case kB => exact fun _ => locs rfl); (case c5 => decide); (case c2 => exact rfl); (case c3 => exact rfl); (case c4 => exact rfl); k_whole; intro D' o' g' L' h' tk' l1 lo' hs' fs' FG' F' N' B' X' T'; (try dsimp only); (try k_lift B'); (try k_fold)))
local macro_rules | `(tactic| walk_at "exec For Tuple Name") => `(tactic| refine hold_intro ?_)
local macro_rules | `(tactic| walk_at "exec For Tuple Call") => `(tactic| refine hold_intro ?_)
local macro_rules | `(tactic| walk_at "exec For Tuple Call cons nil") => `(tactic| refine hold_intro ?_)
local macro_rules | `(tactic| walk_at "exec For Tuple Name cons nil") => `(tactic| refine hold_intro ?_)
local macro_rules | `(tactic| walk_at "call builtin:list.append") => `(tactic| (refine' append_L ?F ?N ?hl ?_ ?hz; (case F => k_asm); (case N => k_asm); (case hl => k_mem); (case hz => (rw [sizeLine_eq]; omega)); intro h' F' N'))
local macro_rules | `(tactic| walk_at "mk_sit") => `(tactic| (refine' Sit.mk ?KX ?T ?B ?F ?N ?hA ?hf ?hke ?hroom ?hh; (case KX => k_asm); (case T => k_asm); (case B => k_asm); (case F => k_asm); (case N => k_asm); (case hA => first | with_reducible assumption | exact Around.frames_deeper (Below.stack (by with_reducible assumption)) | rfl); (case hf => first | with_reducible assumption | rfl); (case hke => first | with_reducible assumption | rfl); (case hroom => k_room); (case hh => first | with_reducible assumption | exact handled_deeper (by with_reducible assumption) | assumption | rfl)))
local macro_rules | `(tactic| walk_at "call ref") => `(tactic| ((with_reducible show wpAny _ _ (call (Value.ref 83) [_, Value.str _ _] (List.zip _ [Value.bool true])) _ _ _); k_dflt (refine' conv_name ?S ?ka ?kb ?_; (case S => walk_at "mk_sit"); (case ka => k_asm); (case kb => k_asm); k_whole); intro h' t' F' N'))
local macro_rules | `(tactic| walk_at "call ref") => `(tactic| ((with_reducible show wpAny _ _ (call (Value.ref 83) [_, Value.str _ _] (List.zip _ [Value.bool false])) _ _ _); k_dflt (refine' conv_val ?S ?ka ?kb ?_; (case S => walk_at "mk_sit"); (case ka => k_asm); (case kb => k_asm); k_whole); intro h' t' F' N'))
/-- a text or None, as the law lays it -/
def OptText (v : Value) : Prop := v = .none ∨ ∃ y t, v = .str y t ∧ ctlIn isCtlV y.cps = false ∧ y.length ≤ 1000
theorem GoodO.opt {a : Str} {v : Value} (h1 : ctlIn isCtlN a.cps = false) (ov : OptText v) : GoodO [(a, v)] := fun q hq => by
  cases List.mem_singleton.mp hq
  exact ⟨h1, ov⟩
def cnts (ps : List (Str × Value)) : List Int := nmL.map fun a => (cnt ps a : Int)
theorem cnts_len {ps : List (Str × Value)} : (cnts ps).length = 5 := rfl
theorem cnts_getD {ps : List (Str × Value)} {i : Nat} (h : i < 5) : (cnts ps).getD i 0 = (cnt ps (nmL.getD i Str.empty) : Int) := by
  match i, h with
  | 0, _ => rfl
  | 1, _ => rfl
  | 2, _ => rfl
  | 3, _ => rfl
  | 4, _ => rfl
theorem nm_some {i : Nat} (h : i < 5) : nmL[i]? = some (nmL.getD i Str.empty) := by
  match i, h with
  | 0, _ => rfl
  | 1, _ => rfl
  | 2, _ => rfl
  | 3, _ => rfl
  | 4, _ => rfl
theorem nm_len (i : Nat) : (nmL.getD i Str.empty).length ≤ 1000 := by
  rcases Nat.lt_or_ge i 5 with h | h
  · exact (nm_facts _ (List.mem_of_getElem? (nm_some h))).2.1
  · rw [List.getD, List.getElem?_eq_none (by exact h)]
    decide
theorem nm_two {z : Int} {y : Str} (h0 : 0 ≤ z) (h5 : z < 5) (o : y = nmL.getD z.toNat Str.empty ∨ y = Txt.upper (nmL.getD z.toNat Str.empty)) : Txt.lower y = nmL.getD z.toNat Str.empty ∧ ctlIn isCtlN y.cps = false ∧ y.length ≤ 1000 := by
  have e := List.mem_of_getElem? (nm_some (i := z.toNat) (by omega))
  obtain ⟨f1, f2, f3⟩ := nm_facts _ e
  obtain ⟨g1, g2, g3, g4, g5⟩ := nm_facts2 _ e
  rcases o with rfl | rfl
  · exact ⟨f1, g1, f2⟩
  · exact ⟨g2, g5, g3⟩
theorem cnt_snoc {ps : List (Str × Value)} {nm : Str} {v : Value} {z i : Nat} (h : Txt.lower nm = nmL.getD z Str.empty) (hz : z < 5) (hi : i < 5) : cnt (ps ++ [(nm, v)]) (nmL.getD i Str.empty) = if i = z then cnt ps (nmL.getD i Str.empty) + 1 else cnt ps (nmL.getD i Str.empty) := by
  rw [cnt_append]
  by_cases e : i = z
  · subst e
    rw [if_pos rfl, cnt_all (rs := [(nm, v)]) (a := nmL.getD i Str.empty) (fun q hq => by cases List.mem_singleton.mp hq; exact h)]
    rfl
  · rw [if_neg e, cnt_other (rs := [(nm, v)]) (a := nmL.getD z Str.empty) (fun q hq => by cases List.mem_singleton.mp hq; exact h) ?_]
    · rfl
    · rcases Nat.lt_or_gt_of_ne e with l | l
      · exact (nm_ne l hz (nm_some hi) (nm_some hz)).symm
      · exact nm_ne l hi (nm_some hz) (nm_some hi)
theorem cnts_snoc {ps : List (Str × Value)} {nm : Str} {v : Value} {z : Int} (h0 : 0 ≤ z) (h5 : z < 5) (h : Txt.lower nm = nmL.getD z.toNat Str.empty) :
    ((List.range 5).map fun i => if ((i : Nat) : Int) = z then (cnts ps).getD ((i : Nat) : Int).toNat 0 + 1 else (cnts ps).getD ((i : Nat) : Int).toNat 0) = cnts (ps ++ [(nm, v)]) := by
  have key : ∀ i, i < 5 → (if ((i : Nat) : Int) = z then (cnts ps).getD ((i : Nat) : Int).toNat 0 + 1 else (cnts ps).getD ((i : Nat) : Int).toNat 0) = (cnt (ps ++ [(nm, v)]) (nmL.getD i Str.empty) : Int) := fun i hi => by
    rw [cnt_snoc h (by omega) hi, Int.toNat_natCast, cnts_getD hi]
    by_cases e : (i : Int) = z
    · rw [if_pos e, if_pos (by omega)]; rfl
    · rw [if_neg e, if_neg (by omega)]
  have e : cnts (ps ++ [(nm, v)]) = (List.range 5).map fun i => (cnt (ps ++ [(nm, v)]) (nmL.getD i Str.empty) : Int) := rfl
  rw [e]
  exact List.map_congr_left fun i hi => key i (List.mem_range.mp hi)
def Named (ps : List (Str × Value)) : Prop := ∀ q ∈ ps, Txt.lower q.1 ∈ nmL
theorem Named.snoc {ps : List (Str × Value)} {nm : Str} {v : Value} {z : Int} (h : Named ps) (h0 : 0 ≤ z) (h5 : z < 5) (e : Txt.lower nm = nmL.getD z.toNat Str.empty) : Named (ps ++ [(nm, v)]) := fun q hq => by
  rcases List.mem_append.mp hq with hq | hq
  · exact h q hq
  · cases List.mem_singleton.mp hq
    rw [e]
    exact List.mem_of_getElem? (nm_some (i := z.toNat) (by omega))
theorem cnt_cons (q : Str × Value) (r : List (Str × Value)) (a : Str) : cnt (q :: r) a = (if Txt.lower q.1 = a then 1 else 0) + cnt r a := by
  unfold cnt
  rw [List.filter_cons]
  by_cases e : Txt.lower q.1 = a
  · rw [if_pos (by rw [e]; exact beq_self_eq_true a), if_pos e, List.length_cons, Nat.add_comm]
  · rw [if_neg (by rw [beq_iff_eq]; exact e), if_neg e, Nat.zero_add]
theorem cnts_sum : ∀ {ps : List (Str × Value)}, Named ps → (cnts ps).sum = ps.length
  | [], _ => rfl
  | q :: r, h => by
    have ih := cnts_sum (ps := r) fun p hp => h p (.tail _ hp)
    have hq := h q (.head _)
    have e : ∀ (l : List Str) (a : Str), l.Nodup → a ∈ l → (l.map fun b => (((if a = b then 1 else 0) + cnt r b : Nat) : Int)).sum = 1 + (l.map fun b => (cnt r b : Int)).sum := by
      intro l a
      induction l with
      | nil => intro _ h; cases h
      | cons b l ihl =>
        intro hn hm
        rw [List.map_cons, List.sum_cons, List.map_cons, List.sum_cons]
        by_cases e : a = b
        · subst e
          have h1 : ∀ b ∈ l, a ≠ b := fun b hb e => (List.nodup_cons.mp hn).1 (e ▸ hb)
          have h2 : (l.map fun b => (((if a = b then 1 else 0) + cnt r b : Nat) : Int)) = l.map fun b => (cnt r b : Int) := List.map_congr_left fun b hb => by rw [if_neg (h1 b hb), Nat.zero_add]
          rw [h2, if_pos rfl]
          push_cast
          omega
        · rw [ihl (List.nodup_cons.mp hn).2 ((List.mem_cons.mp hm).resolve_left e), if_neg e]
          push_cast
          omega
    have e2 : cnts (q :: r) = nmL.map fun b => (((if Txt.lower q.1 = b then 1 else 0) + cnt r b : Nat) : Int) := by
      unfold cnts
      exact List.map_congr_left fun b _ => by rw [cnt_cons]
    rw [e2, e nmL _ (by decide +kernel) hq]
    have e3 : (nmL.map fun b => (cnt r b : Int)).sum = r.length := ih
    rw [e3, List.length_cons]
    push_cast
    omega
theorem cnts_same {ps ps' : List (Str × Value)} (h : Same ps ps') : cnts ps' = cnts ps := by
  unfold cnts
  exact List.map_congr_left fun a ha => by rw [h.2.2 a ha]
theorem ones_law {ps : List (Str × Value)} : (nmL.foldl stepO (ps, [(ps.length : Int)])).2 = (ps.length : Int) :: cnts ps := by
  rw [ones_gen _ _ _ (by decide +kernel)]
  rfl
def pairsI : List Int → List Int
  | [] => []
  | a :: r => r.map (a + ·) ++ pairsI r
theorem pairsI_perm {a b : List Int} (h : a.Perm b) : (pairsI a).Perm (pairsI b) := by
  induction h with
  | nil => exact .nil
  | cons x h ih => exact (h.map _).append ih
  | swap x y l =>
    show ((y + x) :: (l.map (y + ·)) ++ (l.map (x + ·) ++ pairsI l)).Perm ((x + y) :: (l.map (x + ·)) ++ (l.map (y + ·) ++ pairsI l))
    rw [Int.add_comm y x, List.cons_append, List.cons_append]
    refine .cons _ ?_
    rw [← List.append_assoc, ← List.append_assoc]
    exact List.perm_append_comm.append_right _
  | trans _ _ h1 h2 => exact h1.trans h2
theorem lossTo_pairs (c : Nat → Int) : (lossTo c 5).Perm (pairsI [c 0, c 1, c 2, c 3, c 4]) := by
  have e1 : lossTo c 5 = [(0, 1), (0, 2), (1, 2), (0, 3), (1, 3), (2, 3), (0, 4), (1, 4), (2, 4), (3, 4)].map fun p : Nat × Nat => c p.1 + c p.2 := rfl
  have e2 : pairsI [c 0, c 1, c 2, c 3, c 4] = [(0, 1), (0, 2), (0, 3), (0, 4), (1, 2), (1, 3), (1, 4), (2, 3), (2, 4), (3, 4)].map fun p : Nat × Nat => c p.1 + c p.2 := rfl
  rw [e1, e2]
  exact List.Perm.map _ (by decide)
theorem sum_perm {a b : List Int} (h : a.Perm b) : a.sum = b.sum := by
  induction h with
  | nil => rfl
  | cons x _ ih => rw [List.sum_cons, List.sum_cons, ih]
  | swap x y l => simp only [List.sum_cons]; omega
  | trans _ _ h1 h2 => exact h1.trans h2
theorem sort_mid {a b c d : Int} {M l : List Int} (hp : l.Perm (a :: b :: (M ++ [c, d]))) (h1 : a ≤ b) (h2 : ∀ x ∈ M, b ≤ x ∧ x ≤ c) (h3 : b ≤ c) (h4 : c ≤ d) : sortI l = a :: b :: (sortI M ++ [c, d]) := by
  refine (eq_sortI ?_ ?_).symm
  · exact (((sortI_perm M).append_right _).cons _ |>.cons _).trans hp.symm
  · have hm : ∀ x ∈ sortI M, b ≤ x ∧ x ≤ c := fun x hx => h2 x ((sortI_perm M).mem_iff.mp hx)
    have hcd : List.Pairwise (· ≤ ·) (sortI M ++ [c, d]) := by
      rw [List.pairwise_append]
      refine ⟨sortI_rises M, by simp [h4], fun x hx y hy => ?_⟩
      have := (hm x hx).2
      simp only [List.mem_cons, List.not_mem_nil, or_false] at hy
      rcases hy with rfl | rfl <;> omega
    refine .cons (fun y hy => ?_) (.cons (fun y hy => ?_) hcd)
    · rcases List.mem_cons.mp hy with rfl | hy
      · exact h1
      · rcases List.mem_append.mp hy with hy | hy
        · exact Int.le_trans h1 (hm y hy).1
        · simp only [List.mem_cons, List.not_mem_nil, or_false] at hy
          rcases hy with rfl | rfl <;> omega
    · rcases List.mem_append.mp hy with hy | hy
      · exact (hm y hy).1
      · simp only [List.mem_cons, List.not_mem_nil, or_false] at hy
        rcases hy with rfl | rfl <;> omega
/-- the ten sums tell the five counts -/
theorem losses_tell {l : List Int} {cs : List Int} (h5 : cs.length = 5) (hp : l.Perm (pairsI cs)) : ∃ s0 s1 s2 s3 s4 m0 m1 m2 m3 m4 m5 : Int, sortI cs = [s0, s1, s2, s3, s4] ∧ sortI l = [s0 + s1, s0 + s2, m0, m1, m2, m3, m4, m5, s2 + s4, s3 + s4] ∧ m0 + m1 + m2 + m3 + m4 + m5 = (s0 + s3) + (s0 + s4) + (s1 + s2) + (s1 + s3) + (s1 + s4) + (s2 + s3) := by
  have hq := sortI_perm cs
  have hr := sortI_rises cs
  have hl := hq.length_eq
  rw [h5] at hl
  obtain ⟨s0, s1, s2, s3, s4, e⟩ : ∃ s0 s1 s2 s3 s4, sortI cs = [s0, s1, s2, s3, s4] := by
    match sortI cs, hl with
    | [a, b, c, d, e], _ => exact ⟨a, b, c, d, e, rfl⟩
  rw [e] at hq hr
  have hp2 := hp.trans (pairsI_perm hq).symm
  have o1 : s0 ≤ s1 := by simp at hr; omega
  have o2 : s1 ≤ s2 := by simp at hr; omega
  have o3 : s2 ≤ s3 := by simp at hr; omega
  have o4 : s3 ≤ s4 := by simp at hr; omega
  have hp3 : l.Perm ((s0 + s1) :: (s0 + s2) :: ([s0 + s3, s0 + s4, s1 + s2, s1 + s3, s1 + s4, s2 + s3] ++ [s2 + s4, s3 + s4])) := hp2
  have hs := sort_mid hp3 (by omega) (by intro x hx; simp only [List.mem_cons, List.not_mem_nil, or_false] at hx; omega) (by omega) (by omega)
  have hM := sortI_perm [s0 + s3, s0 + s4, s1 + s2, s1 + s3, s1 + s4, s2 + s3]
  have hML := hM.length_eq
  have hMS := sum_perm hM
  generalize sortI [s0 + s3, s0 + s4, s1 + s2, s1 + s3, s1 + s4, s2 + s3] = M at *
  match M, hML with
  | [m0, m1, m2, m3, m4, m5], _ =>
    refine ⟨s0, s1, s2, s3, s4, m0, m1, m2, m3, m4, m5, e, hs, ?_⟩
    simp only [List.sum_cons, List.sum_nil] at hMS
    omega
def boxEven (p q r s : Int) : List Int := [p, p + q + r, p + q + s, p + r + s]
def boxOdd (p q r s : Int) : List Int := [p + q, p + r, p + s, p + q + r + s]
theorem box_same_nat : ∀ p, p < 2 → ∀ q, q < 3 → ∀ r, r < 3 → ∀ s, s < 3 → sortI (lossTo (fun i => (((boxEven (p : Nat) (q : Nat) (r : Nat) (s : Nat)).getD i 0).toNat : Int)) 4) = sortI (lossTo (fun i => (((boxOdd (p : Nat) (q : Nat) (r : Nat) (s : Nat)).getD i 0).toNat : Int)) 4) := by decide +kernel
theorem box_same {p q r s : Int} (hp : 0 ≤ p ∧ p < 2) (hq : 0 ≤ q ∧ q < 3) (hr : 0 ≤ r ∧ r < 3) (hs : 0 ≤ s ∧ s < 3) : sortI (lossTo (fun i => (((boxEven p q r s).getD i 0).toNat : Int)) 4) = sortI (lossTo (fun i => (((boxOdd p q r s).getD i 0).toNat : Int)) 4) := by
  obtain ⟨p, rfl⟩ := Int.eq_ofNat_of_zero_le hp.1
  obtain ⟨q, rfl⟩ := Int.eq_ofNat_of_zero_le hq.1
  obtain ⟨r, rfl⟩ := Int.eq_ofNat_of_zero_le hr.1
  obtain ⟨s, rfl⟩ := Int.eq_ofNat_of_zero_le hs.1
  exact box_same_nat p (by omega) q (by omega) r (by omega) s (by omega)
theorem box_ones {a b c d : Int} (ha : 0 ≤ a) (hb : 0 ≤ b) (hc : 0 ≤ c) (hd : 0 ≤ d) : [((([a, b, c, d].getD 0 0).toNat + ([a, b, c, d].getD 1 0).toNat + ([a, b, c, d].getD 2 0).toNat + ([a, b, c, d].getD 3 0).toNat : Nat) : Int), (([a, b, c, d].getD 0 0).toNat : Int), (([a, b, c, d].getD 1 0).toNat : Int), (([a, b, c, d].getD 2 0).toNat : Int), (([a, b, c, d].getD 3 0).toNat : Int)] = [a + (b + (c + (d + 0))), a, b, c, d] := by
  obtain ⟨a, rfl⟩ := Int.eq_ofNat_of_zero_le ha
  obtain ⟨b, rfl⟩ := Int.eq_ofNat_of_zero_le hb
  obtain ⟨c, rfl⟩ := Int.eq_ofNat_of_zero_le hc
  obtain ⟨d, rfl⟩ := Int.eq_ofNat_of_zero_le hd
  show [((a + b + c + d : Nat) : Int), (a : Int), (b : Int), (c : Int), (d : Int)] = _
  rw [show ((a + b + c + d : Nat) : Int) = (a : Int) + ((b : Int) + ((c : Int) + ((d : Int) + 0))) by omega]
section
variable {w : World} {A A₀ : Around} {E : Value → Shared → Prop} {s : Shared} {h₀ h base : Heap} {env : Env} {outer : List Env} {L x l d : Addr} {tl : Tok} {m mg mb : Str → Option Value} {news news' : List (Addr × Obj)}
   {p : Program} {loose : List Str} {mean : ExcName → Option Value} {Q : Value → Shared → Prop} {nm : Str} {tk : Tok} {its : Array Value} {n : Nat} {ps : List (Str × Value)}
theorem box_opt {v : Value} (ov : OptText v) (S : Sit w A A₀ base h₀ env outer L m p loose mean mg mb news s.heap 10) (B : Box w news x l d tl its n ps) (hsm : nm.length ≤ 1000) (hclean : ctlIn isCtlN nm.cps = false) (hs : ps.length < 1000)
   (h : ∀ h' t' news' its' n' y ty, Fr h₀ L h' m → News h₀ L h' news' → Kept l news news' → Box w news' x l d tl its' n' (ps ++ [(nm, .str y ty)]) → GoodO [(nm, .str y ty)] → Q .none {s with heap := h', toks := t'}) :
   wpAny (model pg w) A (call (.ref 179) [.ref x, .str nm tk, v]) Q E s := by
  rcases ov with rfl | ⟨y, t, rfl, h1, h2⟩
  · exact box_none S B hsm hclean hs fun h' t' n' its' k ty F N K B => h h' t' n' its' k _ ty F N K B (GoodO.one hclean (by decide +kernel) (by decide +kernel))
  · exact box_str S B hsm hclean h2 h1 hs fun h' t' n' its' k ty F N K B => h h' t' n' its' k _ ty F N K B (GoodO.one hclean h1 h2)
theorem Box.cell {c : Addr} {o : Obj} {v₀ : Option Value} (B : Box w news x l d tl its n ps) (N : News h₀ L h news) (hc : (c, o) ∈ news) (hd : o.data = .cell v₀) (K : Kept c news news') : Box w news' x l d tl its n ps := by
  refine ⟨K _ B.hx (cell_ne N B.hx hc hd fun v e => by cases e), K _ B.hd (cell_ne N B.hd hc hd fun v e => by cases e), K _ B.hl (cell_ne N B.hl hc hd fun v e => by cases e), ?_, B.small⟩
  exact Paired.imp B.P fun v q ⟨t', tk, e, hm, hs⟩ => ⟨t', tk, e, K _ hm (cell_ne N hm hc hd fun v e => by cases e), hs⟩
theorem nm_itemZ {ln : Addr} {nits : Array Value} {nn : Nat} {z : Int} {value slice : Expr} {u : Tok} (N : News h₀ L s.heap news) (hl : (ln, listOf nits nn) ∈ news) (hns : StrsAre nits.toList nmL) (h0 : 0 ≤ z) (h5 : z < 5)
    (h : ∀ t', Q (.str (nmL.getD z.toNat Str.empty) t') s) (hs : subscripted slice false (.ref ln) (.int z u) = operate [.ref ln, .int z u] (getItem (.ref ln) (.int z u)) := by with_unfolding_all rfl) (hg : ∀ r, letTemporaryGo value (.ref ln) r = pure () := by intro _; with_unfolding_all rfl) :
    wpAny (model pg w) A (subscriptTail value slice (.ref ln) (.int z u)) Q E s := by
  obtain ⟨i, rfl⟩ := Int.eq_ofNat_of_zero_le h0
  exact nm_item N hl hns (nm_some (by omega)) h hs hg
/-- one of the four texts -/
theorem text_item {D : Addr} {t0 t1 t3 : Tok} {cn : Nat} {i : Int} {value slice : Expr} {u : Tok} (N : News h₀ L s.heap news) (hl : (D, listOf #[.str (Str.ofString "x") t0, .str (Str.ofString "") t1, .none, .str (Str.ofString "x\ty") t3] cn) ∈ news) (h0 : 0 ≤ i) (h4 : i < 4)
    (h : ∀ v, OptText v → Q v s) (hs : subscripted slice false (.ref D) (.int i u) = operate [.ref D, .int i u] (getItem (.ref D) (.int i u)) := by with_unfolding_all rfl) (hg : ∀ r, letTemporaryGo value (.ref D) r = pure () := by intro _; with_unfolding_all rfl) :
    wpAny (model pg w) A (subscriptTail value slice (.ref D) (.int i u)) Q E s := by
  have hL : s.heap.IsList D ([Value.str (Str.ofString "x") t0, .str (Str.ofString "") t1, .none, .str (Str.ofString "x\ty") t3]).toArray := ⟨_, (N _ hl).1, rfl, cn, rfl⟩
  rcases (by omega : i = 0 ∨ i = 1 ∨ i = 2 ∨ i = 3) with rfl | rfl | rfl | rfl
  · exact item_listL hL (by decide) (by decide) rfl (h _ (.inr ⟨_, _, rfl, by decide +kernel, by decide +kernel⟩)) hs hg
  · exact item_listL hL (by decide) (by decide) rfl (h _ (.inr ⟨_, _, rfl, by decide +kernel, by decide +kernel⟩)) hs hg
  · exact item_listL hL (by decide) (by decide) rfl (h _ (.inl rfl)) hs hg
  · exact item_listL hL (by decide) (by decide) rfl (h _ (.inr ⟨_, _, rfl, by decide +kernel, by decide +kernel⟩)) hs hg
end
end Mine
namespace Mine
local macro_rules | `(tactic| k_room) => `(tactic| first | ((try simp only [depth_under_make, depth_under_kw, depth_in1, depth_deeper, depth_caller]); omega) | decide)
local macro_rules | `(tactic| k_enter) => `(tactic| (refine' code_def ?k1 ?k2 ?k3 ?k4 ?k5 ?kA ?kF ?kK ?k6 ?k7 ?k8 ?k9 ?kB ?_ ?c2 ?c3 ?c4 ?c5; (case k1 => k_asm); (case k2 => k_asm); (case k3 => k_asm); (case k4 => k_asm); (case k5 => k_asm); (case kA => assumption); (case kF => assumption); (case kK => assumption);  (case k6 => k_is); (case k7 => k_is); (case k8 => k_room); (case k9 => first | exact BindsTo.of_eq rfl | exact binds_K (by k_in) rfl (by k_is) rfl rfl rfl | fail "k_enter: no rule for these arguments"); (case c5 => decide); (case kB => exact locs rfl); (case c2 => exact rfl); (case c3 => exact rfl); (case c4 => exact rfl); k_whole; intro g' L' h' FG' F' N' B' X' T'; (try dsimp only); (try k_lift B'); (try k_fold)))
local macro_rules | `(tactic| k_enter) => `(tactic| (refine' code_defC ?k1 ?k2 ?k3 ?k4 ?k5 ?kA ?kF ?kK ?k6 ?k7 ?k8 ?k9 ?kB ?kD ?_ ?c2 ?c3 ?c4; (case k1 => k_asm); (case k2 => k_asm); (case k3 => k_asm); (case k4 => k_asm); (case k5 => k_asm); (case kA => assumption); (case kF => assumption); (case kK => assumption); (case k6 => k_is); (case k7 => k_is); (case k8 => k_room); (case k9 => first | exact BindsTo.of_eq rfl | exact binds_K (by k_in) rfl (by k_is) rfl rfl rfl | fail "k_enter: no rule for these arguments"); (case kB => exact rfl); (case kD => decide +kernel); (case c2 => exact rfl); (case c3 => exact rfl); (case c4 => exact rfl); k_whole; intro g' L' h' tk' cells' FG' F' N' Y' B' X' T' l1; k_cells Y'; (try simp only [List.cons_append, List.nil_append] at N'); (try dsimp only); (try k_lift B'); (try k_fold)))
local macro_rules | `(tactic| k_mem) => `(tactic| first | assumption | exact List.Mem.head _ | (refine' List.Mem.tail _ ?_; k_mem))
local macro_rules | `(tactic| k_all) => `(tactic| exact all_ne_of_lt (by assumption) (by first | exact Nat.le_refl _ | exact Nat.le_succ _ | omega))
local macro_rules | `(tactic| walk_at "call builtin:str.lower") => `(tactic| (refine PyProof.Rows.SCL.lower (by omega) ?_; intro _))
local macro_rules | `(tactic| walk_at "eval ListComp") => `(tactic| refine hold_intro ?_)
local macro_rules | `(tactic| walk_at "eval Slice none none none") => `(tactic| (refine slice_K (by assumption) (by assumption) ?_; intro sl' h' F' N'; (try k_sweep)))
local macro_rules | `(tactic| walk_at "setItem ref ref ref") => `(tactic| refine hold_intro ?_)
local macro_rules | `(tactic| walk_at "exec Assign cons ListComp") => `(tactic| ((with_reducible show wpAny _ _ (exec (Stmt.Assign [Expr.Subscript _ _ _] _ _) _) _ _ _); refine wpAny_Assign_Subscript ?_))
local macro_rules | `(tactic| walk_at "call builtin:len") => `(tactic| (refine' len_L ?N ?hl ?hs ?_; (case N => k_asm); (case hl => k_mem); (case hs => omega); intro t' tk'))
local macro_rules | `(tactic| walk_at "subscriptTail Name Slice ref ref") => `(tactic| ((with_reducible show wpAny _ _ (subscriptTail _ _ (Value.ref _) (Value.ref _)) _ _ _); refine' copy_L ?F ?N ?hl ?hs ?hz ?_ ?he; (case F => k_asm); (case N => k_asm); (case hl => k_mem); (case hs => exact List.Mem.head _); (case hz => rw [sizeLine_eq]; omega); (case he => with_unfolding_all rfl); intro D' h' F' N' l1'; (try k_sweep)))
local macro_rules | `(tactic| walk_at "enter_more") => `(tactic| (refine' kp_more ?k1 ?k2 ?k3 ?k4 ?k5 ?kA ?kF ?kK ?k6 ?k7 ?k8 ?kX ?kM ?kN ?kD ?kR ?kP ?kT ?kB ?_ ?c2 ?c3 ?c4 ?c5; (case kA => assumption); (case kF => assumption); (case kK => assumption); (case k1 => k_asm); (case k2 => k_asm); (case k3 => k_asm); (case k4 => k_asm); (case k5 => k_asm); (case k6 => k_is); (case k7 => k_is); (case k8 => k_room); (case kX => kp_lit); (case kM => exact rfl); (case kN => exact rfl); (case kD => kp_flats); (case kR => exact rfl); (case kP => exact rfl); (case kT => exact fun _ => rfl); (case kB => exact fun _ => locs rfl); (case c5 => decide); (case c2 => exact rfl); (case c3 => exact rfl); (case c4 => exact rfl); k_whole; intro D' o' g' L' h' tk' l1 lo' hs' fs' FG' F' N' B' X' T'; (try dsimp only); (try k_lift B'); (try k_fold)))
local macro_rules | `(tactic| walk_at "exec For Tuple Name") => `(tactic| refine hold_intro ?_)
local macro_rules | `(tactic| walk_at "exec For Tuple Call") => `(tactic| refine hold_intro ?_)
local macro_rules | `(tactic| walk_at "exec For Tuple Call cons nil") => `(tactic| refine hold_intro ?_)
local macro_rules | `(tactic| walk_at "exec For Tuple Name cons nil") => `(tactic| refine hold_intro ?_)
local macro_rules | `(tactic| walk_at "call builtin:list.append") => `(tactic| (refine' append_L ?F ?N ?hl ?_ ?hz; (case F => k_asm); (case N => k_asm); (case hl => k_mem); (case hz => (rw [sizeLine_eq]; omega)); intro h' F' N'))
local macro_rules | `(tactic| walk_at "mk_sit") => `(tactic| (refine' Sit.mk ?KX ?T ?B ?F ?N ?hA ?hf ?hke ?hroom ?hh; (case KX => k_asm); (case T => k_asm); (case B => k_asm); (case F => k_asm); (case N => k_asm); (case hA => first | with_reducible assumption | exact Around.frames_deeper (Below.stack (by with_reducible assumption)) | rfl); (case hf => first | with_reducible assumption | rfl); (case hke => first | with_reducible assumption | rfl); (case hroom => k_room); (case hh => first | with_reducible assumption | exact handled_deeper (by with_reducible assumption) | assumption | rfl)))
local macro_rules | `(tactic| walk_at "call ref") => `(tactic| ((with_reducible show wpAny _ _ (call (Value.ref 83) [_, Value.str _ _] (List.zip _ [Value.bool true])) _ _ _); k_dflt (refine' conv_name ?S ?ka ?kb ?_; (case S => walk_at "mk_sit"); (case ka => k_asm); (case kb => k_asm); k_whole); intro h' t' F' N'))
local macro_rules | `(tactic| walk_at "call ref") => `(tactic| ((with_reducible show wpAny _ _ (call (Value.ref 83) [_, Value.str _ _] (List.zip _ [Value.bool false])) _ _ _); k_dflt (refine' conv_val ?S ?ka ?kb ?_; (case S => walk_at "mk_sit"); (case ka => k_asm); (case kb => k_asm); k_whole); intro h' t' F' N'))
local macro_rules | `(tactic| walk_at "box") => `(tactic| first | with_reducible assumption | exact Box.tail (by with_reducible assumption) | exact Box.tail (Box.tail (by with_reducible assumption)) | exact Box.tail (Box.tail (Box.tail (by with_reducible assumption))) | exact Box.tail (Box.tail (Box.tail (Box.tail (by with_reducible assumption)))))
local macro_rules | `(tactic| k_mem) => `(tactic| first | with_reducible assumption | exact Box.hx (by with_reducible assumption) | exact Box.hd (by with_reducible assumption) | exact Box.hl (by with_reducible assumption) | exact List.Mem.head _ | (refine' List.Mem.tail _ ?_; k_mem) | (refine' Kept.mem (by with_reducible assumption) ?_ ?_; (k_mem); (first | with_reducible assumption | exact Ne.symm (by with_reducible assumption))))
local macro_rules | `(tactic| walk_at "call ref") => `(tactic| ((with_reducible show wpAny _ _ (call (Value.ref 102) [_, Value.str _ _] _) _ _ _); k_dflt (refine' box_del ?S ?B ?ka ?kb ?_; (case S => walk_at "mk_sit"); (case B => walk_at "box"); (case ka => walk_at "side"); (case kb => walk_at "side"); k_whole); intro h' t' n' its' k' F' N' K' B'))
local macro_rules | `(tactic| walk_at "call ref") => `(tactic| ((with_reducible show wpAny _ _ (call (Value.ref 121) [_, Value.str _ _] _) _ _ _); k_dflt (refine' box_get ?S ?B ?ka ?kb ?_; (case S => walk_at "mk_sit"); (case B => walk_at "box"); (case ka => walk_at "side"); (case kb => walk_at "side"); k_whole); intro D' h' t' ys' k' F' N' l1' e1'))
local macro_rules | `(tactic| walk_at "call ref") => `(tactic| ((with_reducible show wpAny _ _ (call (Value.ref 179) [_, Value.str _ _, Value.none] _) _ _ _); k_dflt (refine' box_none ?S ?B ?ka ?kb ?kc ?_; (case S => walk_at "mk_sit"); (case B => walk_at "box"); (case ka => walk_at "side"); (case kb => walk_at "side"); (case kc => walk_at "side"); k_whole); intro h' t' n' its' k' ty' F' N' K' B'))
local macro_rules | `(tactic| walk_at "call ref") => `(tactic| ((with_reducible show wpAny _ _ (call (Value.ref 179) [_, Value.str _ _, Value.str _ _] _) _ _ _); k_dflt (refine' box_str ?S ?B ?ka ?kb ?kc ?kd ?ke ?_; (case S => walk_at "mk_sit"); (case B => walk_at "box"); (case ka => walk_at "side"); (case kb => walk_at "side"); (case kc => walk_at "side"); (case kd => walk_at "side"); (case ke => walk_at "side"); k_whole); intro h' t' n' its' k' ty' F' N' K' B'))
local macro_rules | `(tactic| walk_at "call ref") => `(tactic| ((show wpAny _ _ (call (Value.ref 146) [Value.ref _]) _ _ _); k_dflt (refine' box_items ?S ?B ?_; (case S => walk_at "mk_sit"); (case B => walk_at "box"); k_whole); intro D' h' t' F' N' l1'))
local macro_rules | `(tactic| walk_at "side") => `(tactic| first | with_reducible assumption | decide | omega)
local macro_rules | `(tactic| walk_at "call builtin:len") => `(tactic| (k_dflt (refine' box_len ?S ?B ?_; (case S => walk_at "mk_sit"); (case B => walk_at "box"); k_whole); intro h' t' tk' F' N'))
local macro_rules | `(tactic| walk_at "call builtin:list.append") => `(tactic| (refine' append_K ?F ?N ?hl ?hz ?_; (case F => k_asm); (case N => k_asm); (case hl => k_mem); (case hz => (rw [sizeLine_eq]; first | omega | decide)); intro h' n' F' N' K' M'))
local macro_rules | `(tactic| walk_at "call builtin:list.append") => `(tactic| (refine' box_tell ?F ?N ?B ?ht ?hne ?hs ?_; (case F => k_asm); (case N => k_asm); (case B => walk_at "box"); (case ht => k_mem); (case hne => assumption); (case hs => walk_at "side"); intro h' n' F' N' K' M' B'))
local macro_rules | `(tactic| walk_at "call builtin:list.append") => `(tactic| (refine' box_append ?F ?N ?B ?ht ?hs ?hz ?_; (case F => k_asm); (case N => k_asm); (case B => walk_at "box"); (case ht => exact List.Mem.head _); (case hs => walk_at "side"); (case hz => walk_at "side"); intro h' n' F' N' K' B'))
local macro_rules | `(tactic| walk_at "exec For Name Call") => `(tactic| refine hold_intro ?_)
local macro_rules | `(tactic| walk_at "exec For Name Name") => `(tactic| refine hold_intro ?_)
local macro_rules | `(tactic| walk_at "exec For Name Name cons nil") => `(tactic| refine hold_intro ?_)
local macro_rules | `(tactic| walk_at "exec For Name Call cons nil") => `(tactic| refine hold_intro ?_)
local macro_rules | `(tactic| walk_at "kept2") => `(tactic| first | assumption | exact Kept2.start | (refine' Kept2.tail ?_; walk_at "kept2") | (refine' Kept2.left ?kz ?kw; (case kw => assumption); (case kz => walk_at "kept2")) | (refine' Kept2.right ?kz ?kw; (case kw => assumption); (case kz => walk_at "kept2")) | (refine' Kept2.both ?kz ?kw; (case kw => with_reducible assumption); (case kz => walk_at "kept2")))
local macro_rules | `(tactic| walk_at "agree") => `(tactic| first | assumption | exact Agree.start | (refine' Agree.set ?_ ?kw; (case kw => decide); walk_at "agree"))
local macro_rules | `(tactic| walk_at "delItem ref str") => `(tactic| (k_dflt (refine' delItem_own ?F ?X ?I ?hQ ?hS ?hF ?_; (case F => k_asm); (case X => k_asm); (case I => k_inst); (case hS => k_is); (case hF => k_is); (case hQ => k_is); k_whole)))
local macro_rules | `(tactic| walk_at "call builtin:len") => `(tactic| (refine' len_L ?N ?hl ?hs ?_; (case hl => k_mem); (case hs => with_reducible assumption); (case N => k_asm); intro t' tk'))
def lawStmt : Stmt := pg.main.body.getLastD (.Pass default)
def lawBody : List Stmt := match lawStmt with
  | .FunctionDef _ _ b _ _ _ _ _ _ _ => b
  | _ => []
def lawScope : Scope := match lawStmt with
  | .FunctionDef _ _ _ _ _ _ sc _ _ _ => sc
  | _ => default
def overA : List (Str × Value) → (Str → Option Value) → Str → Option Value
  | [], M => M
  | (a, v) :: r, M => fun y => if y = a then some v else overA r M y
theorem overA_eq : ∀ {l : List (Str × Value)} {M : Str → Option Value}, (∀ p ∈ l, M p.1 = some p.2) → overA l M = M
  | [], _, _ => rfl
  | (a, v) :: r, M, h => by
    funext y
    show (if y = a then some v else overA r M y) = M y
    by_cases e : y = a
    · rw [if_pos e, e]; exact (h _ (.head _)).symm
    · rw [if_neg e, overA_eq fun p hp => h p (.tail _ hp)]
section
variable {w : World} {A A₀ : Around} {E : Value → Shared → Prop} {s : Shared} {h₀ base : Heap} {outer : List Env} {L l x d fa lc ln D : Addr} {cd : Value} {tl : Tok} {m mg mb : Str → Option Value} {news : List (Addr × Obj)}
   {p : Program} {loose : List Str} {mean : ExcName → Option Value} {Q : Flow → Shared → Prop} {its nits cits a : Array Value} {n nn cn k : Nat} {cs : List Int} {oC oK : Obj} {v0 : Option Value}
local macro_rules | `(tactic| walk_at "pyIter ref") => `(tactic| refine hold_intro ?_)
local macro_rules | `(tactic| walk_at "exec For Name Subscript") => `(tactic| refine hold_intro ?_)
local macro_rules | `(tactic| walk_at "exec For Name Subscript cons nil") => `(tactic| refine hold_intro ?_)
local macro_rules | `(tactic| walk_at "subscriptTail Name BinOp ref int") => `(tactic| (refine' nm_itemZ ?N ?hl ?hns ?h0 ?h5 ?_; (case N => k_asm); (case hl => k_mem); (case hns => with_reducible assumption); (case h0 => with_reducible assumption); (case h5 => with_reducible assumption); intro t'))
local macro_rules | `(tactic| walk_at "subscriptTail Name BinOp ref int") => `(tactic| (refine' two_item ?N ?hl ?hi ?_; (case N => k_asm); (case hl => exact List.Mem.head _); (case hi => with_reducible assumption); intro y' t' o'))
local macro_rules | `(tactic| walk_at "subscriptTail Name BinOp ref int") => `(tactic| (refine' text_item ?N ?hl ?h0 ?h4 ?_; (case N => k_asm); (case hl => exact List.Mem.head _); (case h0 => with_reducible assumption); (case h4 => with_reducible assumption); intro v' ov'))
local macro_rules | `(tactic| walk_at "eval Name") => `(tactic| (k_dflt (refine' nameX_C ?N ?c ?m ?d ?_ ?a ?b; (case a => rfl); (case b => rfl); (case N => k_asm); (case c => rfl); (case m => k_mem); (case d => with_reducible assumption); k_whole)))
local macro_rules | `(tactic| walk_at "call ref") => `(tactic| ((with_reducible show wpAny _ _ (call (Value.ref 179) [_, Value.str _ _, _] _) _ _ _); k_dflt (refine' box_opt ?ov ?S ?B ?ka ?kb ?kc ?_; (case ov => with_reducible assumption); (case S => walk_at "mk_sit"); (case B => walk_at "box"); (case ka => walk_at "side"); (case kb => walk_at "side"); (case kc => walk_at "side"); k_whole); intro h' t' n' its' k' y2' ty' F' N' K' B' G'))
local macro_rules | `(tactic| walk_at "exec Assign cons ListComp") => `(tactic| refine hold_intro ?_)
local macro_rules | `(tactic| walk_at "sub") => `(tactic| first | with_reducible assumption | (refine List.mem_cons_of_mem _ ?_; walk_at "sub"))
local macro_rules | `(tactic| walk_at "call ref") => `(tactic| ((with_reducible show wpAny _ _ (call (Value.ref 193) _ _) _ _ _); refine hold_intro ?_))
local macro_rules | `(tactic| walk_at "call ref") => `(tactic| ((with_reducible show wpAny _ _ (call (Value.ref 200) [_, Value.ref _] _) _ _ _); refine hold_intro ?_))
local macro_rules | `(tactic| walk_at "call ref") => `(tactic| ((with_reducible show wpAny _ _ (call (Value.ref 207) _ _) _ _ _); refine hold_intro ?_))
local macro_rules | `(tactic| walk_at "compareOp NotEq ref ref") => `(tactic| refine hold_intro ?_)
local macro_rules | `(tactic| walk_at "compareOp Eq ref ref") => `(tactic| refine hold_intro ?_)
local macro_rules | `(tactic| walk_at "call builtin:sorted") => `(tactic| refine hold_intro ?_)
local macro_rules | `(tactic| walk_at "ints") => `(tactic| first | with_reducible assumption | exact IntsAre.nil | (refine' IntsAre.cons _ _ ?_; walk_at "ints") | (apply IntsAre.cons; walk_at "ints"))
local macro_rules | `(tactic| walk_at "call builtin:sum") => `(tactic| (refine' sum_own ?F ?N ?hh ?h1 ?i1 ?_; (case F => k_asm); (case N => k_asm); (case hh => with_reducible assumption); (case h1 => k_mem); (case i1 => walk_at "ints"); intro h' tk' t' F' N'; (try simp only [List.sum_cons, List.sum_nil])))
local macro_rules | `(tactic| walk_at "assign Tuple") => `(tactic| refine hold_intro ?_)
theorem mem3 {a b c : Addr × Obj} {n : List (Addr × Obj)} (h1 : a ∈ n) (h2 : b ∈ n) (h3 : c ∈ n) : ∀ q ∈ [a, b, c], q ∈ n := fun q hq => by
  rcases List.mem_cons.mp hq with rfl | hq
  · exact h1
  · rcases List.mem_cons.mp hq with rfl | hq
    · exact h2
    · cases List.mem_singleton.mp hq
      exact h3
theorem memN {h : Heap} {news' : List (Addr × Obj)} {q : Addr × Obj} (_N : News h₀ L h news') (h : q ∈ news') : q ∈ news' := h
theorem Box.monoN {h : Heap} {news' : List (Addr × Obj)} {ps : List (Str × Value)} (_N : News h₀ L h news') (B : Box w news x l d tl its n ps) (k : ∀ p ∈ news, p ∈ news') : Box w news' x l d tl its n ps := B.mono k
theorem law_tail {ps : List (Str × Value)} {c0 c1 c2 c3 c4 c5 c6 c7 c8 c9 c10 : Int} {t0 t1 t2 t3 t4 t5 t6 t7 t8 t9 t10 : Tok} (S : Sit w A A₀ base h₀ (envOfC (Str.ofString "law") lawScope L fa cd) outer L m p loose mean mg mb news s.heap 60) (hu : A.units + 64 < cLine)
   (m1 : m (Str.ofString "cells") = some (.ref lc)) (m2 : m (Str.ofString "names") = some (.ref ln)) (m3 : m (Str.ofString "given") = some (.ref l)) (m4 : m (Str.ofString "table") = some (.ref x))
   (hlc : (lc, listOf #[.int c0 t0, .int c1 t1, .int c2 t2, .int c3 t3, .int c4 t4, .int c5 t5, .int c6 t6, .int c7 t7, .int c8 t8, .int c9 t9, .int c10 t10] cn) ∈ news) (hln : (ln, listOf nits nn) ∈ news) (hns : StrsAre nits.toList nmL) (B : Box w news x l d tl its n ps) (g1 : GoodO ps) (g2 : ps.length ≤ 10) (g3 : Named ps)
   (hK : (L + 1 + 1 + 1, oK) ∈ news) (dK : oK.data = .cell (some (.ref D))) (hD : (D, listOf a k) ∈ news) (hI : IntsAre a.toList (cnts ps)) (hne : D ≠ l) (n1 : lc ≠ l) (n2 : ln ≠ l)
   (hQ : ∀ h' t' m' n', Fr h₀ L h' m' → News h₀ L h' n' → Q (.ret (.bool true)) {s with heap := h', toks := t'}) :
   wpAny (model pg w) A (execs (lawBody.drop 8) (envOfC (Str.ofString "law") lawScope L fa cd)) Q E s := by
  revert S
  conv in List.drop 8 lawBody => whnf
  conv in (occs := *) lawScope => all_goals whnf
  dsimp only
  intro S
  obtain ⟨KX, T, B', F, N, hA, hf, hke, hroom, hh⟩ := S
  rw [← overA_eq (l := [(Str.ofString "cells", .ref lc), (Str.ofString "names", .ref ln), (Str.ofString "given", .ref l), (Str.ofString "table", .ref x)]) (M := m) (by simp only [List.forall_mem_cons]; exact ⟨m1, m2, m3, m4, fun _ h => nomatch h⟩)] at F
  simp only [overA] at F
  have v2 := cell_ne N B.hl hK dK fun v e => by cases e
  have g20 : ps.length ≤ 20 := Nat.le_trans g2 (by decide +kernel)
  have h5n : nits.size = 5 := (Array.length_toList).symm.trans hns.length
  obtain ⟨s0, s1, s2, s3, s4, m0, m1, m2, m3, m4, m5, d1, d2, d3⟩ := losses_tell (cnts_len (ps := ps)) (lossTo_pairs fun i => cnt ps (nmL.getD i Str.empty))
  have d4 := cnts_sum g3
  k_steps
  refine hold_elim ?_
  refine' losses_spec ?S4 ?B4 ?hnm4 hns n2 h5n g1 g20 ?h4
  case S4 => walk_at "mk_sit"
  case B4 => exact B
  case hnm4 => exact hln
  case h4 =>
    intro D2 h₃ tk₃ t₂ n₂ its2 n2' a2 b2 ps2 F' N' K2 l1 l2 B2 hsame hD2 hI2
    rw [d2] at hI2
    obtain ⟨y0, y1, y2, y3, y4, y5, y6, y7, y8, y9, rfl⟩ := ints_list10 hI2
    obtain ⟨e0, e1, e2, e3, e4, hcn⟩ : ∃ e0 e1 e2 e3 e4, cnts ps = [e0, e1, e2, e3, e4] := ⟨_, _, _, _, _, rfl⟩
    rw [hcn] at hI d1 d4
    obtain ⟨w0, w1, w2, w3, w4, rfl⟩ := ints_list5 hI
    have x1 := K2 _ hlc n1 (Nat.ne_of_lt (l1 _ hlc))
    have x2 := K2 _ hln n2 (Nat.ne_of_lt (l1 _ hln))
    have x3 := K2 _ hK v2.symm (Nat.ne_of_lt (l1 _ hK))
    have x4 := K2 _ hD hne (Nat.ne_of_lt (l1 _ hD))
    replace N' : News h₀ L h₃ (_ :: _ :: _ :: n₂) := fun q hq => (List.mem_cons.mp hq).elim (fun e => e ▸ N' _ hD2) fun hq => (List.mem_cons.mp hq).elim (fun e => e ▸ N' _ x4) fun hq => (List.mem_cons.mp hq).elim (fun e => e ▸ N' _ x1) (N' q)
    clear K2 l1 l2 hlc hln hK hD N
    k_steps
    refine hold_elim ?_
    refine sort_own (by k_asm) (by k_asm) (by k_mem) hI (show 5 < 64 by decide) ?_
    intro D3 a3 k3 h₃ F' N' l3 I3
    rw [d1] at I3
    k_steps
    refine hold_elim ?_
    refine' ne_own ?N5 ?h51 ?h52 ?i51 I3 hu ?he5 ?_
    case N5 => k_asm
    case h51 => k_mem
    case h52 => k_mem
    case i51 =>
      walk_at "ints"
    case he5 =>
      show [_, _, _, _, _] = [_, _, _, _, _]
      simp only [Int.reduceToNat, List.getD_cons_zero, List.getD_cons_succ, Int.fdiv_eq_ediv_of_nonneg _ (show (0 : Int) ≤ 4 by decide), List.cons.injEq, and_true]
      refine ⟨?_, ?_, ?_, ?_, ?_⟩ <;> omega
    k_steps
    refine hold_elim ?_
    simp only [List.sum_cons, List.sum_nil] at d4
    refine' ones_spec ?S6 ?B6 ?hnm6 hns n2 h5n ?h6
    case S6 => walk_at "mk_sit"
    case B6 => exact Box.monoN (by k_asm) B2 (fun q hq => by walk_at "sub")
    case hnm6 => k_mem
    case h6 =>
      intro t6 h₃ tk₃ n6 its6 n6' a6 b6 F' N' K6 l6 B6 M6 I6
      rw [ones_law, hsame.2.1, cnts_same hsame, hcn] at I6
      have lc6 : ∀ q ∈ n₂, q.1 < t6 := fun q hq => l6 q (by walk_at "sub")
      have kc6 : ∀ q ∈ n₂, q.1 ≠ l → q ∈ n6 := fun q hq h => K6 q (by walk_at "sub") h (Nat.ne_of_lt (lc6 q hq))
      have x5 := kc6 _ x1 n1
      have x6 := kc6 _ x3 v2.symm
      have x7 := kc6 _ x4 hne
      replace N' : News h₀ L h₃ (_ :: _ :: _ :: n6) := fun q hq => (List.mem_cons.mp hq).elim (fun e => e ▸ N' _ M6) fun hq => (List.mem_cons.mp hq).elim (fun e => e ▸ N' _ x7) fun hq => (List.mem_cons.mp hq).elim (fun e => e ▸ N' _ x5) (N' q)
      clear K6 l6 lc6 kc6 x1 x2 x3 x4 hD2 B2 B6
      k_steps
      refine hold_elim ?_
      refine' ne_own ?N7 ?h71 ?h72 I6 ?i72 hu ?he7 ?_
      case N7 => k_asm
      case h71 => k_mem
      case h72 => k_mem
      case i72 => walk_at "ints"
      case he7 =>
        show [_, _, _, _, _, _] = [_, _, _, _, _, _]
        simp only [List.cons.injEq, and_true, true_and]
        omega
      k_steps
      refine hold_elim ?_
      refine' assign_quad ?hh8 ?F8 ?N8 ?ht8 rfl rfl rfl rfl rfl ?h8
      case hh8 => exact hh
      case F8 => k_asm
      case N8 => k_asm
      case ht8 => k_mem
      case h8 =>
        intro h₃ tk₃ F' N'
        generalize [c0, c1, c2, c3, c4, c5, c6, c7, c8, c9, c10].getD (Int.toNat 10) 0 = cz at *
        have hp8 : 0 ≤ cz.fmod 2 ∧ cz.fmod 2 < 2 := ⟨Int.fmod_nonneg_of_pos _ (by decide), Int.fmod_lt_of_pos _ (by decide)⟩
        have hq8 : 0 ≤ (cz.fdiv 2).fmod 3 ∧ (cz.fdiv 2).fmod 3 < 3 := ⟨Int.fmod_nonneg_of_pos _ (by decide), Int.fmod_lt_of_pos _ (by decide)⟩
        have hr8 : 0 ≤ (cz.fdiv 6).fmod 3 ∧ (cz.fdiv 6).fmod 3 < 3 := ⟨Int.fmod_nonneg_of_pos _ (by decide), Int.fmod_lt_of_pos _ (by decide)⟩
        have hs8 : 0 ≤ (cz.fdiv 18).fmod 3 ∧ (cz.fdiv 18).fmod 3 < 3 := ⟨Int.fmod_nonneg_of_pos _ (by decide), Int.fmod_lt_of_pos _ (by decide)⟩
        generalize cz.fmod 2 = p at *
        generalize (cz.fdiv 2).fmod 3 = q at *
        generalize (cz.fdiv 6).fmod 3 = r at *
        generalize (cz.fdiv 18).fmod 3 = s at *
        k_steps
        refine hold_elim ?_
        refine' lawbox_spec (cs := boxEven p q r s) ?S9 ?hlc9 ?hcs9 rfl ?hb9 ?h9
        case S9 => walk_at "mk_sit"
        case hlc9 => k_mem
        case hcs9 =>
          unfold boxEven
          exact .cons _ _ (.cons _ _ (.cons _ _ (.cons _ _ .nil)))
        case hb9 =>
          intro c hc
          simp only [boxEven, List.mem_cons, List.not_mem_nil, or_false] at hc
          omega
        case h9 =>
          intro T9 U9 V9 h₃ tk₃ n9 a9 b9 f9 g9 F' N' hs9' M19 M29 I9 M39 J9
          replace N' : News h₀ L h₃ (_ :: _ :: _ :: _) := fun q hq => (List.mem_cons.mp hq).elim (fun e => e ▸ N' _ M19) fun hq => (List.mem_cons.mp hq).elim (fun e => e ▸ N' _ M29) fun hq => (List.mem_cons.mp hq).elim (fun e => e ▸ N' _ M39) fun hq => N' q (hs9' q hq)
          clear hs9' M19 M29 M39
          obtain ⟨z9, hz9⟩ : ∃ z, z = sortI (lossTo (fun i => (((boxEven p q r s).getD i 0).toNat : Int)) 4) := ⟨_, rfl⟩
          rw [← hz9] at I9
          unfold boxEven at J9
          rw [box_ones (by omega) (by omega) (by omega) (by omega)] at J9
          k_steps
          refine hold_elim ?_
          refine' assign_pair ?hh9 ?F9 ?N9 ?ht9 rfl rfl rfl ?k9
          case hh9 => exact hh
          case F9 => k_asm
          case N9 => k_asm
          case ht9 => k_mem
          case k9 =>
            intro h₃ tk₃ F' N'
            k_steps
            refine hold_elim ?_
            refine' lawbox_spec (cs := boxOdd p q r s) ?S10 ?hlc10 ?hcs10 rfl ?hb10 ?h10
            case S10 => walk_at "mk_sit"
            case hlc10 => k_mem
            case hcs10 =>
              unfold boxOdd
              exact .cons _ _ (.cons _ _ (.cons _ _ (.cons _ _ .nil)))
            case hb10 =>
              intro c hc
              simp only [boxOdd, List.mem_cons, List.not_mem_nil, or_false] at hc
              omega
            case h10 =>
              intro T10 U10 V10 h₃ tk₃ n10 a10 b10 f10 g10 F' N' hs10' M110 M210 I10 M310 J10
              replace N' : News h₀ L h₃ (_ :: _ :: _ :: _) := fun q hq => (List.mem_cons.mp hq).elim (fun e => e ▸ N' _ M110) fun hq => (List.mem_cons.mp hq).elim (fun e => e ▸ N' _ M210) fun hq => (List.mem_cons.mp hq).elim (fun e => e ▸ N' _ M310) fun hq => N' q (hs10' q hq)
              clear hs10' M110 M210 M310
              obtain ⟨z10, hz10⟩ : ∃ z, z = sortI (lossTo (fun i => (((boxOdd p q r s).getD i 0).toNat : Int)) 4) := ⟨_, rfl⟩
              rw [← hz10] at I10
              unfold boxOdd at J10
              rw [box_ones (by omega) (by omega) (by omega) (by omega)] at J10
              k_steps
              refine hold_elim ?_
              refine' assign_pair ?hh10 ?F10 ?N10 ?ht10 rfl rfl rfl ?k10
              case hh10 => exact hh
              case F10 => k_asm
              case N10 => k_asm
              case ht10 => k_mem
              case k10 =>
                intro h₃ tk₃ F' N'
                k_steps
                refine hold_elim ?_
                refine' eq_own ?Na ?ha1 ?ha2 I9 I10 hu ?hea ?_
                case Na => k_asm
                case ha1 => k_mem
                case ha2 => k_mem
                case hea => rw [hz9, hz10]; exact box_same hp8 hq8 hr8 hs8
                k_steps
                refine hold_elim ?_
                refine' eq_own ?Nb ?hb1 ?hb2 J9 ?ib hu ?heb ?_
                case Nb => k_asm
                case hb1 => k_mem
                case hb2 => k_mem
                case ib => exact .cons _ _ (.cons _ _ (.cons _ _ (.cons _ _ (.cons _ _ .nil))))
                case heb => rfl
                k_steps
                refine hold_elim ?_
                refine' eq_own ?Nc ?hc1 ?hc2 J10 ?ic hu ?hec ?_
                case Nc => k_asm
                case hc1 => k_mem
                case hc2 => k_mem
                case ic => exact .cons _ _ (.cons _ _ (.cons _ _ (.cons _ _ (.cons _ _ .nil))))
                case hec => rfl
                k_steps
                exact hQ _ _ _ _ (by assumption) (by assumption)
end
end Mine
namespace Mine
local macro_rules | `(tactic| k_room) => `(tactic| first | ((try simp only [depth_under_make, depth_under_kw, depth_in1, depth_deeper, depth_caller]); omega) | decide)
local macro_rules | `(tactic| k_enter) => `(tactic| (refine' code_def ?k1 ?k2 ?k3 ?k4 ?k5 ?kA ?kF ?kK ?k6 ?k7 ?k8 ?k9 ?kB ?_ ?c2 ?c3 ?c4 ?c5; (case k1 => k_asm); (case k2 => k_asm); (case k3 => k_asm); (case k4 => k_asm); (case k5 => k_asm); (case kA => assumption); (case kF => assumption); (case kK => assumption);  (case k6 => k_is); (case k7 => k_is); (case k8 => k_room); (case k9 => first | exact BindsTo.of_eq rfl | exact binds_K (by k_in) rfl (by k_is) rfl rfl rfl | fail "k_enter: no rule for these arguments"); (case c5 => decide); (case kB => exact locs rfl); (case c2 => exact rfl); (case c3 => exact rfl); (case c4 => exact rfl); k_whole; intro g' L' h' FG' F' N' B' X' T'; (try dsimp only); (try k_lift B'); (try k_fold)))
local macro_rules | `(tactic| k_enter) => `(tactic| (refine' code_defC ?k1 ?k2 ?k3 ?k4 ?k5 ?kA ?kF ?kK ?k6 ?k7 ?k8 ?k9 ?kB ?kD ?_ ?c2 ?c3 ?c4; (case k1 => k_asm); (case k2 => k_asm); (case k3 => k_asm); (case k4 => k_asm); (case k5 => k_asm); (case kA => assumption); (case kF => assumption); (case kK => assumption); (case k6 => k_is); (case k7 => k_is); (case k8 => k_room); (case k9 => first | exact BindsTo.of_eq rfl | exact binds_K (by k_in) rfl (by k_is) rfl rfl rfl | fail "k_enter: no rule for these arguments"); (case kB => exact rfl); (case kD => decide +kernel); (case c2 => exact rfl); (case c3 => exact rfl); (case c4 => exact rfl); k_whole; intro g' L' h' tk' cells' FG' F' N' Y' B' X' T' l1; k_cells Y'; (try simp only [List.cons_append, List.nil_append] at N'); (try dsimp only); (try k_lift B'); (try k_fold)))
local macro_rules | `(tactic| k_mem) => `(tactic| first | assumption | exact List.Mem.head _ | (refine' List.Mem.tail _ ?_; k_mem))
local macro_rules | `(tactic| k_all) => `(tactic| exact all_ne_of_lt (by assumption) (by first | exact Nat.le_refl _ | exact Nat.le_succ _ | omega))
local macro_rules | `(tactic| walk_at "call builtin:str.lower") => `(tactic| (refine PyProof.Rows.SCL.lower (by omega) ?_; intro _))
local macro_rules | `(tactic| walk_at "eval ListComp") => `(tactic| refine hold_intro ?_)
local macro_rules | `(tactic| walk_at "eval Slice none none none") => `(tactic| (refine slice_K (by assumption) (by assumption) ?_; intro sl' h' F' N'; (try k_sweep)))
local macro_rules | `(tactic| walk_at "setItem ref ref ref") => `(tactic| refine hold_intro ?_)
local macro_rules | `(tactic| walk_at "exec Assign cons ListComp") => `(tactic| ((with_reducible show wpAny _ _ (exec (Stmt.Assign [Expr.Subscript _ _ _] _ _) _) _ _ _); refine wpAny_Assign_Subscript ?_))
local macro_rules | `(tactic| walk_at "call builtin:len") => `(tactic| (refine' len_L ?N ?hl ?hs ?_; (case N => k_asm); (case hl => k_mem); (case hs => omega); intro t' tk'))
local macro_rules | `(tactic| walk_at "subscriptTail Name Slice ref ref") => `(tactic| ((with_reducible show wpAny _ _ (subscriptTail _ _ (Value.ref _) (Value.ref _)) _ _ _); refine' copy_L ?F ?N ?hl ?hs ?hz ?_ ?he; (case F => k_asm); (case N => k_asm); (case hl => k_mem); (case hs => exact List.Mem.head _); (case hz => rw [sizeLine_eq]; omega); (case he => with_unfolding_all rfl); intro D' h' F' N' l1'; (try k_sweep)))
local macro_rules | `(tactic| walk_at "enter_more") => `(tactic| (refine' kp_more ?k1 ?k2 ?k3 ?k4 ?k5 ?kA ?kF ?kK ?k6 ?k7 ?k8 ?kX ?kM ?kN ?kD ?kR ?kP ?kT ?kB ?_ ?c2 ?c3 ?c4 ?c5; (case kA => assumption); (case kF => assumption); (case kK => assumption); (case k1 => k_asm); (case k2 => k_asm); (case k3 => k_asm); (case k4 => k_asm); (case k5 => k_asm); (case k6 => k_is); (case k7 => k_is); (case k8 => k_room); (case kX => kp_lit); (case kM => exact rfl); (case kN => exact rfl); (case kD => kp_flats); (case kR => exact rfl); (case kP => exact rfl); (case kT => exact fun _ => rfl); (case kB => exact fun _ => locs rfl); (case c5 => decide); (case c2 => exact rfl); (case c3 => exact rfl); (case c4 => exact rfl); k_whole; intro D' o' g' L' h' tk' l1 lo' hs' fs' FG' F' N' B' X' T'; (try dsimp only); (try k_lift B'); (try k_fold)))
local macro_rules | `(tactic| walk_at "exec For Tuple Name") => `(tactic| refine hold_intro ?_)
local macro_rules | `(tactic| walk_at "exec For Tuple Call") => `(tactic| refine hold_intro ?_)
local macro_rules | `(tactic| walk_at "exec For Tuple Call cons nil") => `(tactic| refine hold_intro ?_)
local macro_rules | `(tactic| walk_at "exec For Tuple Name cons nil") => `(tactic| refine hold_intro ?_)
local macro_rules | `(tactic| walk_at "call builtin:list.append") => `(tactic| (refine' append_L ?F ?N ?hl ?_ ?hz; (case F => k_asm); (case N => k_asm); (case hl => k_mem); (case hz => (rw [sizeLine_eq]; omega)); intro h' F' N'))
local macro_rules | `(tactic| walk_at "mk_sit") => `(tactic| (refine' Sit.mk ?KX ?T ?B ?F ?N ?hA ?hf ?hke ?hroom ?hh; (case KX => k_asm); (case T => k_asm); (case B => k_asm); (case F => k_asm); (case N => k_asm); (case hA => first | with_reducible assumption | exact Around.frames_deeper (Below.stack (by with_reducible assumption)) | rfl); (case hf => first | with_reducible assumption | rfl); (case hke => first | with_reducible assumption | rfl); (case hroom => k_room); (case hh => first | with_reducible assumption | exact handled_deeper (by with_reducible assumption) | assumption | rfl)))
local macro_rules | `(tactic| walk_at "call ref") => `(tactic| ((with_reducible show wpAny _ _ (call (Value.ref 83) [_, Value.str _ _] (List.zip _ [Value.bool true])) _ _ _); k_dflt (refine' conv_name ?S ?ka ?kb ?_; (case S => walk_at "mk_sit"); (case ka => k_asm); (case kb => k_asm); k_whole); intro h' t' F' N'))
local macro_rules | `(tactic| walk_at "call ref") => `(tactic| ((with_reducible show wpAny _ _ (call (Value.ref 83) [_, Value.str _ _] (List.zip _ [Value.bool false])) _ _ _); k_dflt (refine' conv_val ?S ?ka ?kb ?_; (case S => walk_at "mk_sit"); (case ka => k_asm); (case kb => k_asm); k_whole); intro h' t' F' N'))
local macro_rules | `(tactic| walk_at "box") => `(tactic| first | with_reducible assumption | exact Box.tail (by with_reducible assumption) | exact Box.tail (Box.tail (by with_reducible assumption)) | exact Box.tail (Box.tail (Box.tail (by with_reducible assumption))) | exact Box.tail (Box.tail (Box.tail (Box.tail (by with_reducible assumption)))))
local macro_rules | `(tactic| k_mem) => `(tactic| first | with_reducible assumption | exact Box.hx (by with_reducible assumption) | exact Box.hd (by with_reducible assumption) | exact Box.hl (by with_reducible assumption) | exact List.Mem.head _ | (refine' List.Mem.tail _ ?_; k_mem) | (refine' Kept.mem (by with_reducible assumption) ?_ ?_; (k_mem); (first | with_reducible assumption | exact Ne.symm (by with_reducible assumption))))
local macro_rules | `(tactic| walk_at "call ref") => `(tactic| ((with_reducible show wpAny _ _ (call (Value.ref 102) [_, Value.str _ _] _) _ _ _); k_dflt (refine' box_del ?S ?B ?ka ?kb ?_; (case S => walk_at "mk_sit"); (case B => walk_at "box"); (case ka => walk_at "side"); (case kb => walk_at "side"); k_whole); intro h' t' n' its' k' F' N' K' B'))
local macro_rules | `(tactic| walk_at "call ref") => `(tactic| ((with_reducible show wpAny _ _ (call (Value.ref 121) [_, Value.str _ _] _) _ _ _); k_dflt (refine' box_get ?S ?B ?ka ?kb ?_; (case S => walk_at "mk_sit"); (case B => walk_at "box"); (case ka => walk_at "side"); (case kb => walk_at "side"); k_whole); intro D' h' t' ys' k' F' N' l1' e1'))
local macro_rules | `(tactic| walk_at "call ref") => `(tactic| ((with_reducible show wpAny _ _ (call (Value.ref 179) [_, Value.str _ _, Value.none] _) _ _ _); k_dflt (refine' box_none ?S ?B ?ka ?kb ?kc ?_; (case S => walk_at "mk_sit"); (case B => walk_at "box"); (case ka => walk_at "side"); (case kb => walk_at "side"); (case kc => walk_at "side"); k_whole); intro h' t' n' its' k' ty' F' N' K' B'))
local macro_rules | `(tactic| walk_at "call ref") => `(tactic| ((with_reducible show wpAny _ _ (call (Value.ref 179) [_, Value.str _ _, Value.str _ _] _) _ _ _); k_dflt (refine' box_str ?S ?B ?ka ?kb ?kc ?kd ?ke ?_; (case S => walk_at "mk_sit"); (case B => walk_at "box"); (case ka => walk_at "side"); (case kb => walk_at "side"); (case kc => walk_at "side"); (case kd => walk_at "side"); (case ke => walk_at "side"); k_whole); intro h' t' n' its' k' ty' F' N' K' B'))
local macro_rules | `(tactic| walk_at "call ref") => `(tactic| ((show wpAny _ _ (call (Value.ref 146) [Value.ref _]) _ _ _); k_dflt (refine' box_items ?S ?B ?_; (case S => walk_at "mk_sit"); (case B => walk_at "box"); k_whole); intro D' h' t' F' N' l1'))
local macro_rules | `(tactic| walk_at "side") => `(tactic| first | with_reducible assumption | decide | omega)
local macro_rules | `(tactic| walk_at "call builtin:len") => `(tactic| (k_dflt (refine' box_len ?S ?B ?_; (case S => walk_at "mk_sit"); (case B => walk_at "box"); k_whole); intro h' t' tk' F' N'))
local macro_rules | `(tactic| walk_at "call builtin:list.append") => `(tactic| (refine' append_K ?F ?N ?hl ?hz ?_; (case F => k_asm); (case N => k_asm); (case hl => k_mem); (case hz => (rw [sizeLine_eq]; first | omega | decide)); intro h' n' F' N' K' M'))
local macro_rules | `(tactic| walk_at "call builtin:list.append") => `(tactic| (refine' box_tell ?F ?N ?B ?ht ?hne ?hs ?_; (case F => k_asm); (case N => k_asm); (case B => walk_at "box"); (case ht => k_mem); (case hne => assumption); (case hs => walk_at "side"); intro h' n' F' N' K' M' B'))
local macro_rules | `(tactic| walk_at "call builtin:list.append") => `(tactic| (refine' box_append ?F ?N ?B ?ht ?hs ?hz ?_; (case F => k_asm); (case N => k_asm); (case B => walk_at "box"); (case ht => exact List.Mem.head _); (case hs => walk_at "side"); (case hz => walk_at "side"); intro h' n' F' N' K' B'))
local macro_rules | `(tactic| walk_at "exec For Name Call") => `(tactic| refine hold_intro ?_)
local macro_rules | `(tactic| walk_at "exec For Name Name") => `(tactic| refine hold_intro ?_)
local macro_rules | `(tactic| walk_at "exec For Name Name cons nil") => `(tactic| refine hold_intro ?_)
local macro_rules | `(tactic| walk_at "exec For Name Call cons nil") => `(tactic| refine hold_intro ?_)
local macro_rules | `(tactic| walk_at "kept2") => `(tactic| first | assumption | exact Kept2.start | (refine' Kept2.tail ?_; walk_at "kept2") | (refine' Kept2.left ?kz ?kw; (case kw => assumption); (case kz => walk_at "kept2")) | (refine' Kept2.right ?kz ?kw; (case kw => assumption); (case kz => walk_at "kept2")) | (refine' Kept2.both ?kz ?kw; (case kw => with_reducible assumption); (case kz => walk_at "kept2")))
local macro_rules | `(tactic| walk_at "agree") => `(tactic| first | assumption | exact Agree.start | (refine' Agree.set ?_ ?kw; (case kw => decide); walk_at "agree"))
local macro_rules | `(tactic| walk_at "delItem ref str") => `(tactic| (k_dflt (refine' delItem_own ?F ?X ?I ?hQ ?hS ?hF ?_; (case F => k_asm); (case X => k_asm); (case I => k_inst); (case hS => k_is); (case hF => k_is); (case hQ => k_is); k_whole)))
local macro_rules | `(tactic| walk_at "call builtin:len") => `(tactic| (refine' len_L ?N ?hl ?hs ?_; (case hl => k_mem); (case hs => with_reducible assumption); (case N => k_asm); intro t' tk'))
/-- the word of the law's first loop -/
def LJ (w : World) (x l d cc ck : Addr) (tl : Tok) (M : Str → Option Value) (ks : List (Addr × Obj)) : Nat → (Str → Option Value) → List (Addr × Obj) → Prop := fun i m' n' =>
  Agree [Str.ofString "name", Str.ofString "text"] M m' ∧ (∀ p ∈ ks, p ∈ n') ∧ ∃ ps, GoodO ps ∧ ps.length ≤ i ∧ Named ps ∧ (∃ its n, Box w n' x l d tl its n ps) ∧
   (∃ oC v0, (cc, oC) ∈ n' ∧ oC.data = .cell v0) ∧ ∃ oK D a k, (ck, oK) ∈ n' ∧ oK.data = .cell (some (.ref D)) ∧ (D, listOf a k) ∈ n' ∧ IntsAre a.toList (cnts ps) ∧ D ≠ l
theorem LJ.mono {w : World} {x l d cc ck : Addr} {tl : Tok} {M : Str → Option Value} {ks n₀ : List (Addr × Obj)} (hks : ∀ p ∈ ks, p ∈ n₀) (hcc : ∃ o, (cc, o) ∈ n₀) (hck : ∃ o, (ck, o) ∈ n₀) (i : Nat) (m : Str → Option Value) (n n' : List (Addr × Obj)) (I : Addr) (h1 : ∀ p ∈ n₀, p.1 ≠ I) (h2 : ∀ p ∈ n, isIter p.2 = false → p.1 ≠ I) (h3 : LJ w x l d cc ck tl M ks i m n) (h4 : ∀ p ∈ n, p.1 ≠ I → p ∈ n') : LJ w x l d cc ck tl M ks i m n' := by
  obtain ⟨hA, hK, ps, g1, g2, g3, ⟨its, k, B⟩, ⟨oC, v0, c1, c2⟩, oK, D, a, k', d1, d2, d3, d4, d5⟩ := h3
  obtain ⟨o1, e1⟩ := hcc
  obtain ⟨o2, e2⟩ := hck
  exact ⟨hA, fun p hp => h4 p (hK p hp) (h1 p (hks p hp)), ps, g1, g2, g3, ⟨its, k, B.noIter fun p hp hi => h4 p hp (h2 p hp hi)⟩, ⟨oC, v0, h4 _ c1 (h1 (cc, o1) e1), c2⟩, oK, D, a, k', h4 _ d1 (h1 (ck, o2) e2), d2, h4 _ d3 (h2 _ d3 isIter_list), d4, d5⟩
theorem mods (c : Int) : (0 ≤ c.fmod 6 ∧ c.fmod 6 < 6) ∧ (0 ≤ (c.fdiv 6).fmod 2 ∧ (c.fdiv 6).fmod 2 < 2) ∧ (0 ≤ (c.fdiv 12).fmod 4 ∧ (c.fdiv 12).fmod 4 < 4) :=
  ⟨⟨Int.fmod_nonneg_of_pos _ (by decide), Int.fmod_lt_of_pos _ (by decide)⟩, ⟨Int.fmod_nonneg_of_pos _ (by decide), Int.fmod_lt_of_pos _ (by decide)⟩, ⟨Int.fmod_nonneg_of_pos _ (by decide), Int.fmod_lt_of_pos _ (by decide)⟩⟩
section
variable {w : World} {A A₀ : Around} {E : Value → Shared → Prop} {s : Shared} {h₀ base : Heap} {outer : List Env} {L l x d fa lc ln D : Addr} {cd : Value} {tl : Tok} {m mg mb : Str → Option Value} {news : List (Addr × Obj)}
   {p : Program} {loose : List Str} {mean : ExcName → Option Value} {Q : Flow → Shared → Prop} {its nits cits a : Array Value} {n nn cn k : Nat} {cs : List Int} {oC oK : Obj} {v0 : Option Value}
local macro_rules | `(tactic| walk_at "pyIter ref") => `(tactic| refine hold_intro ?_)
local macro_rules | `(tactic| walk_at "exec For Name Subscript") => `(tactic| refine hold_intro ?_)
local macro_rules | `(tactic| walk_at "exec For Name Subscript cons nil") => `(tactic| refine hold_intro ?_)
local macro_rules | `(tactic| walk_at "subscriptTail Name BinOp ref int") => `(tactic| (refine' nm_itemZ ?N ?hl ?hns ?h0 ?h5 ?_; (case N => k_asm); (case hl => k_mem); (case hns => with_reducible assumption); (case h0 => with_reducible assumption); (case h5 => with_reducible assumption); intro t'))
local macro_rules | `(tactic| walk_at "subscriptTail Name BinOp ref int") => `(tactic| (refine' two_item ?N ?hl ?hi ?_; (case N => k_asm); (case hl => exact List.Mem.head _); (case hi => with_reducible assumption); intro y' t' o'))
local macro_rules | `(tactic| walk_at "subscriptTail Name BinOp ref int") => `(tactic| (refine' text_item ?N ?hl ?h0 ?h4 ?_; (case N => k_asm); (case hl => exact List.Mem.head _); (case h0 => with_reducible assumption); (case h4 => with_reducible assumption); intro v' ov'))
local macro_rules | `(tactic| walk_at "eval Name") => `(tactic| (k_dflt (refine' nameX_C ?N ?c ?m ?d ?_ ?a ?b; (case a => rfl); (case b => rfl); (case N => k_asm); (case c => rfl); (case m => k_mem); (case d => with_reducible assumption); k_whole)))
local macro_rules | `(tactic| walk_at "call ref") => `(tactic| ((with_reducible show wpAny _ _ (call (Value.ref 179) [_, Value.str _ _, _] _) _ _ _); k_dflt (refine' box_opt ?ov ?S ?B ?ka ?kb ?kc ?_; (case ov => with_reducible assumption); (case S => walk_at "mk_sit"); (case B => walk_at "box"); (case ka => walk_at "side"); (case kb => walk_at "side"); (case kc => walk_at "side"); k_whole); intro h' t' n' its' k' y2' ty' F' N' K' B' G'))
local macro_rules | `(tactic| walk_at "exec Assign cons ListComp") => `(tactic| refine hold_intro ?_)
local macro_rules | `(tactic| walk_at "sub") => `(tactic| first | with_reducible assumption | (refine List.mem_cons_of_mem _ ?_; walk_at "sub"))
local macro_rules | `(tactic| walk_at "call ref") => `(tactic| ((with_reducible show wpAny _ _ (call (Value.ref 193) _ _) _ _ _); refine hold_intro ?_))
local macro_rules | `(tactic| walk_at "call ref") => `(tactic| ((with_reducible show wpAny _ _ (call (Value.ref 200) [_, Value.ref _] _) _ _ _); refine hold_intro ?_))
local macro_rules | `(tactic| walk_at "call ref") => `(tactic| ((with_reducible show wpAny _ _ (call (Value.ref 207) _ _) _ _ _); refine hold_intro ?_))
local macro_rules | `(tactic| walk_at "compareOp NotEq ref ref") => `(tactic| refine hold_intro ?_)
local macro_rules | `(tactic| walk_at "compareOp Eq ref ref") => `(tactic| refine hold_intro ?_)
local macro_rules | `(tactic| walk_at "call builtin:sorted") => `(tactic| refine hold_intro ?_)
local macro_rules | `(tactic| walk_at "ints") => `(tactic| first | with_reducible assumption | exact IntsAre.nil | (refine' IntsAre.cons _ _ ?_; walk_at "ints") | (apply IntsAre.cons; walk_at "ints"))
local macro_rules | `(tactic| walk_at "call builtin:sum") => `(tactic| (refine' sum_own ?F ?N ?hh ?h1 ?i1 ?_; (case F => k_asm); (case N => k_asm); (case hh => with_reducible assumption); (case h1 => k_mem); (case i1 => walk_at "ints"); intro h' tk' t' F' N'; (try simp only [List.sum_cons, List.sum_nil])))
local macro_rules | `(tactic| walk_at "assign Tuple") => `(tactic| refine hold_intro ?_)
theorem law_rest {c0 c1 c2 c3 c4 c5 c6 c7 c8 c9 c10 : Int} {t0 t1 t2 t3 t4 t5 t6 t7 t8 t9 t10 : Tok} (S : Sit w A A₀ base h₀ (envOfC (Str.ofString "law") lawScope L fa cd) outer L m p loose mean mg mb news s.heap 60) (hu : A.units + 64 < cLine)
   (m1 : m (Str.ofString "cells") = some (.ref lc)) (m2 : m (Str.ofString "names") = some (.ref ln)) (m3 : m (Str.ofString "given") = some (.ref l)) (m4 : m (Str.ofString "table") = some (.ref x))
   (hlc : (lc, listOf #[.int c0 t0, .int c1 t1, .int c2 t2, .int c3 t3, .int c4 t4, .int c5 t5, .int c6 t6, .int c7 t7, .int c8 t8, .int c9 t9, .int c10 t10] cn) ∈ news) (hln : (ln, listOf nits nn) ∈ news) (hns : StrsAre nits.toList nmL) (B : Box w news x l d tl its n [])
   (hK : (L + 1 + 1 + 1, oK) ∈ news) (dK : oK.data = .cell (some (.ref D))) (hD : (D, listOf a k) ∈ news) (hI : IntsAre a.toList (cnts [])) (hne : D ≠ l) (hC : (L + 1 + 1 + 1 + 1, oC) ∈ news) (dC : oC.data = .cell v0) (n1 : lc ≠ l) (n2 : ln ≠ l)
   (hQ : ∀ h' t' m' n', Fr h₀ L h' m' → News h₀ L h' n' → Q (.ret (.bool true)) {s with heap := h', toks := t'}) :
   wpAny (model pg w) A (execs (lawBody.drop 7) (envOfC (Str.ofString "law") lawScope L fa cd)) Q E s := by
  revert S
  conv in List.drop 7 lawBody => whnf
  conv in (occs := *) lawScope => all_goals whnf
  dsimp only
  intro S
  obtain ⟨KX, T, B', F, N, hA, hf, hke, hroom, hh⟩ := S
  rw [← overA_eq (l := [(Str.ofString "cells", .ref lc), (Str.ofString "names", .ref ln), (Str.ofString "given", .ref l), (Str.ofString "table", .ref x)]) (M := m) (by simp only [List.forall_mem_cons]; exact ⟨m1, m2, m3, m4, fun _ h => nomatch h⟩)] at F
  simp only [overA] at F
  have q3 := cell_ne N hlc hK dK fun v e => by cases e
  have q4 := cell_ne N hlc hC dC fun v e => by cases e
  have q5 := cell_ne N hln hK dK fun v e => by cases e
  have q6 := cell_ne N hln hC dC fun v e => by cases e
  have v1 := cell_ne N B.hl hC dC fun v e => by cases e
  have v2 := cell_ne N B.hl hK dK fun v e => by cases e
  have N : News h₀ L s.heap ((lc, listOf #[.int c0 t0, .int c1 t1, .int c2 t2, .int c3 t3, .int c4 t4, .int c5 t5, .int c6 t6, .int c7 t7, .int c8 t8, .int c9 t9, .int c10 t10] cn) :: news) := fun p hp => (List.mem_cons.mp hp).elim (fun e => e ▸ N _ hlc) (N p)
  k_steps
  refine hold_elim ?_
  refine wpAny_For ?_
  k_steps
  refine hold_elim ?_
  rename (_ ∧ AllLt _ _) => z1
  have lt0 := kst_ltOf z1.2
  have q0 : l ≠ _ := Nat.ne_of_lt (lt0 _ B.hl)
  have q1 := (Nat.ne_of_lt (lt0 _ hK)).symm
  have q2 := (Nat.ne_of_lt (lt0 _ hC)).symm
  dsimp only at q1 q2
  refine' for_listN (LJ w x l d (L + 1 + 1 + 1 + 1) (L + 1 + 1 + 1) tl (fun y => if y = Str.ofString "cells" then some (Value.ref lc) else if y = Str.ofString "names" then some (Value.ref ln) else if y = Str.ofString "given" then some (Value.ref l) else if y = Str.ofString "table" then some (Value.ref x) else m y) [(_, listOf #[.int c0 t0, .int c1 t1, .int c2 t2, .int c3 t3, .int c4 t4, .int c5 t5, .int c6 t6, .int c7 t7, .int c8 t8, .int c9 t9] 0), (lc, listOf #[.int c0 t0, .int c1 t1, .int c2 t2, .int c3 t3, .int c4 t4, .int c5 t5, .int c6 t6, .int c7 t7, .int c8 t8, .int c9 t9, .int c10 t10] cn), (ln, listOf nits nn)]) ?hh ?F ?N ?hJ ?hl ?j0 ?turn ?done
  case hh => exact hh
  case F => k_asm
  case N => k_asm
  case hJ => exact LJ.mono (fun p hp => by
    rcases List.mem_cons.mp hp with rfl | hp
    · exact .head _
    · rcases List.mem_cons.mp hp with rfl | hp
      · exact .tail _ (.head _)
      · cases List.mem_singleton.mp hp
        exact .tail _ (.tail _ hln)) ⟨_, .tail _ (.tail _ hC)⟩ ⟨_, .tail _ (.tail _ hK)⟩
  case hl => exact fun i m n' J => J.2.1 _ (.head _)
  case j0 => exact ⟨Agree.start, (fun p hp => by
    rcases List.mem_cons.mp hp with rfl | hp
    · exact .head _
    · rcases List.mem_cons.mp hp with rfl | hp
      · exact .tail _ (.head _)
      · cases List.mem_singleton.mp hp
        exact .tail _ (.tail _ hln)), [], (fun _ h => nomatch h), Nat.le_refl _, (fun _ h => nomatch h), ⟨_, _, B.tail.tail⟩, ⟨_, _, .tail _ (.tail _ hC), dC⟩, _, _, _, _, .tail _ (.tail _ hK), dK, .tail _ (.tail _ hD), hI, hne⟩
  case turn =>
    rintro i v m₁ n₁ h₂ tk₂ it e ⟨hA', hks, ps, g1, g2, g3, ⟨its', n', B1⟩, ⟨oC1, w1, e1, e2⟩, oK1, D1, a1, k1, e3, e4, e5, e6, e7⟩ him hit hnI F' N'
    have hl0 := hks _ (.head _)
    have hl1 := hks _ (.tail _ (.head _))
    have hl2 := hks _ (.tail _ (.tail _ (.head _)))
    obtain ⟨u, rfl⟩ : ∃ u, m₁ = overL _ u _ := ⟨_, hA'.over⟩
    have hi10 := (Array.getElem?_eq_some_iff.mp e).1
    obtain ⟨c, t, rfl⟩ : ∃ c t, v = .int c t := by
      have hv := Array.mem_of_getElem? e
      simp only [List.mem_toArray, List.mem_cons, List.not_mem_nil, or_false] at hv
      rcases hv with rfl | rfl | rfl | rfl | rfl | rfl | rfl | rfl | rfl | rfl <;> exact ⟨_, _, rfl⟩
    obtain ⟨⟨b0, b1⟩, b2, b3, b4⟩ := mods c
    simp only [overL] at F'
    have r1 := cell_ne N' e5 e1 e2 fun v e => by cases e
    have r2 := cell_ne N' e5 e3 e4 fun v e => by cases e
    have r3 := iter_ne N' him hit e5 isIter_list
    have r4 := iter_ne N' him hit B1.hl isIter_list
    refine wpAny_assign_Name (store_cell F' N' rfl e1 e2 ?_)
    intro h₃ oC2 n₂ F' N' K' f1 f2
    have B2 := B1.cell (by assumption) e1 e2 K'
    have x0 := K' _ hl0 q2
    have x1 := K' _ hl1 q4
    have x2 := K' _ hl2 q6
    have x3 := K' _ e3 (Nat.ne_of_lt (Nat.lt_succ_self _))
    have x5 := K' _ e5 r1
    have x6 := K' _ hit (hnI _ (.tail _ (.tail _ hC))).symm
    have lenz := nm_len (c.fmod 6).toNat
    k_steps
    · refine hold_elim ?_
      have c1' : c.fmod 6 < 5 := by with_reducible assumption
      rename (_ = _ ∨ _ = _) => o1
      obtain ⟨y1, y2, y3⟩ := nm_two b0 c1' o1
      refine wpAny_Assign_Name ?_ (by with_unfolding_all rfl)
      refine' ListComp_counts (c := c) (cs := cnts ps) ?hh3 ?F3 ?N3 ?hC3 f2 ?hK3 e4 ?hD3 e6 rfl ?hclos ?hcell ?hkind ?hnames ?hx ?hk ?hj ?h1 ?h2 ?l1 ?l2 ?hs ?hiter ?hQ3
      case hh3 => exact hh
      case F3 => k_asm
      case N3 => k_asm
      case hC3 => k_mem
      case hK3 => k_mem
      case hD3 => k_mem
      case hclos => with_unfolding_all rfl
      case hcell => decide
      case hkind => rfl
      case hnames => decide
      case hx => rfl
      case hk => exact fun _ => rfl
      case hj => exact fun _ => rfl
      case h1 => exact fun _ => rfl
      case h2 => exact fun _ => rfl
      case l1 => rfl
      case l2 => rfl
      case hs => intro _; with_unfolding_all rfl
      case hiter =>
        intro Q' hQ'
        k_steps
        rename IsRange _ _ _ _ _ _ _ _ => hr
        exact hQ' _ _ _ _ _ _ (by assumption) (by assumption) hr
      case hQ3 =>
        intro D2 h' tk ys k2 F' N' I2 l2
        have B3 := Box.monoN N' B2 fun q hq => (by walk_at "sub")
        have NA := N'
        have subN := fun q (hq : q ∈ n₂) => memN (q := q) NA (by walk_at "sub")
        have z3 := subN _ x3
        have z4 := subN _ x1
        have z5 := subN _ x2
        have z6 := subN _ f1
        have z7 := subN _ x6
        have z8 := subN _ x0
        have g4 := cell_ne NA (.head _) z3 e4 fun v e => by cases e
        refine store_cell F' N' rfl z3 e4 ?_
        intro h₃ oK2 n₃ F' N' K2' f3 f4
        have B4 := B3.cell NA z3 e4 K2'
        have w0 := K2' _ z8 q1
        have w1 := K2' _ z4 q3
        have w2 := K2' _ z5 q5
        have w3 := K2' _ z6 (Nat.ne_of_gt (Nat.lt_succ_self _))
        have w4 := K2' _ (.head _) g4
        have w5 := K2' _ z7 (hnI _ (.tail _ (.tail _ hK))).symm
        have hz : ps.length < 1000 := by have := Nat.lt_of_lt_of_le hi10 (show _ ≤ 10 from Nat.le_refl _); omega
        have v3 := l2 (l, listOf its' n') (by have := B2.hl; walk_at "sub")
        dsimp only at v3
        clear z3 z4 z5 z6 z7 z8 subN K2' NA B3 B2 B1
        k_steps
        · refine ⟨_, _, _, _, rfl, by assumption, by assumption, by k_mem, by walk_at "agree", mem3 (by k_mem) (by k_mem) (by k_mem), ps ++ [(_, _)], g1.append (by with_reducible assumption), by rw [List.length_append]; exact Nat.succ_le_succ g2, g3.snoc b0 c1' y1, ⟨_, _, by walk_at "box"⟩, ⟨_, _, (by k_mem : (_, oC2) ∈ _), f2⟩, oK2, D2, _, _, by k_mem, f4, by k_mem, by rw [← cnts_snoc b0 c1' y1]; exact I2, v3.symm⟩
        · refine ⟨_, _, _, _, rfl, by assumption, by assumption, by k_mem, by walk_at "agree", mem3 (by k_mem) (by k_mem) (by k_mem), ps ++ [(_, _)], g1.append (GoodO.opt y2 (by with_reducible assumption)), by rw [List.length_append]; exact Nat.succ_le_succ g2, g3.snoc b0 c1' y1, ⟨_, _, by walk_at "box"⟩, ⟨_, _, (by k_mem : (_, oC2) ∈ _), f2⟩, oK2, D2, _, _, by k_mem, f4, by k_mem, by rw [← cnts_snoc b0 c1' y1]; exact I2, v3.symm⟩
    · refine ⟨_, _, _, _, rfl, by assumption, by assumption, x6, by walk_at "agree", mem3 x0 x1 x2, ps, g1, Nat.le_succ_of_le g2, g3, ⟨_, _, B2⟩, ⟨_, _, f1, f2⟩, oK1, D1, _, _, x3, e4, x5, e6, e7⟩
  case done =>
    rintro m₁ n₁ h₂ tk₂ ⟨hA', hks, ps, g1, g2, g3, ⟨its', n', B1⟩, -, oK1, D1, a1, k1, e3, e4, e5, e6, e7⟩ F' N'
    have hl1 := hks _ (.tail _ (.head _))
    have hl2 := hks _ (.tail _ (.tail _ (.head _)))
    obtain ⟨u, rfl⟩ : ∃ u, m₁ = overL _ u _ := ⟨_, hA'.over⟩
    have g2 : ps.length ≤ 10 := g2
    dsimp only
    refine' law_tail ?S9 hu ?m19 ?m29 ?m39 ?m49 hl1 hl2 hns B1 g1 g2 g3 e3 e4 e5 e6 e7 n1 n2 ?Q9
    case S9 => exact ⟨KX, T, B', F', N', hA, hf, hke, hroom, hh⟩
    case m19 => rfl
    case m29 => rfl
    case m39 => rfl
    case m49 => rfl
    case Q9 => exact fun h' t' m' n' F' N' => hQ h' t' m' n' F' N'
end
end Mine
namespace Mine
section
local macro_rules | `(tactic| walk_at "execs cons") => `(tactic| ((with_reducible show wpAny _ _ (execs (Stmt.For (Expr.Name _ _) (Expr.Subscript _ _ _) _ _ _ :: _) _) _ _ _); refine hold_intro ?_))
local macro_rules | `(tactic| walk_at "exec Assign cons ListComp") => `(tactic| refine hold_intro ?_)
local macro_rules | `(tactic| walk_at "storeName") => `(tactic| ((with_reducible show wpAny _ _ (storeName _ (Str.ofString "counts") _) _ _ _); refine hold_intro ?_))
theorem holds3 : PySem.Challenge.rw_un0065_03.Holds := hd (by
  k_go0
  k_steps
  refine hold_elim ?_
  refine' Assign_cells (N := 11) ?hL ?hh ?F ?N ?hmd ?hst ?hO ?dO ?hN ?dN ?hLO ?hLN ?hi ?hm ?hbz ?hnl ?hfit ?gg ?gm ?gb ?gs ?hsw ?hclos ?hcell ?hkind ?hnames ?hx ?hy ?hp ?hk ?hj ?h1 ?h2 ?h3 ?l1 ?l2 ?hk2 ?hfree ?hcell2 ?hnames2 ?hx2 ?hk3 ?hx3 ?hs ?hiter ?hQ
  case hclos => with_unfolding_all rfl
  case l1 => rfl
  case l2 => rfl
  case hh => rfl
  case F => k_asm
  case N => k_asm
  case hL => rfl
  case hmd => decide
  case hst => decide
  case hO => k_mem
  case dO => assumption
  case hN => k_mem
  case dN => assumption
  case hLO => k_mem
  case hLN => k_mem
  case hi => exact .cons _ _ (.cons _ _ (.cons _ _ (.cons _ _ (.cons _ _ (.cons _ _ (.cons _ _ (.cons _ _ (.cons _ _ (.cons _ _ (.cons _ _ .nil))))))))))
  case hm => assumption
  case hbz =>
    rw [List.size_toArray, IntsAre.length (by assumption : IntsAre _ (List.take 60 _)), List.length_take]
    exact Nat.le_trans (Nat.min_le_left _ _) (by decide)
  case hnl => rfl
  case hfit => decide
  case gg => exact (topRead_of (by assumption)).g
  case gm => exact mg_none_of (by assumption) (topRead_of (by assumption)).g (by k_is)
  case gb => exact (topRead_of (by assumption)).b
  case gs => exact ((topRead_of (by assumption)).builtins _ (by decide)).trans rfl
  case hsw => with_unfolding_all rfl
  case hcell => decide
  case hkind => rfl
  case hnames => decide
  case hx => rfl
  case hy => rfl
  case hp => rfl
  case hk => exact fun _ => rfl
  case hj => exact fun _ => rfl
  case h1 => exact fun _ => rfl
  case h2 => exact fun _ => rfl
  case h3 => exact fun _ => rfl
  case hk2 => rfl
  case hfree => decide
  case hcell2 => decide
  case hnames2 => decide
  case hx2 => rfl
  case hk3 => exact fun _ _ => rfl
  case hx3 => exact fun _ _ => rfl
  case hs => intro _; with_unfolding_all rfl
  case hiter =>
    intro Q' hQ'
    k_steps
    rename IsRange _ _ _ _ _ _ _ _ => hr
    exact hQ' _ _ _ _ _ _ (by assumption) (by assumption) hr
  case hQ =>
    intro D h' tk ys k zs F' N' I1 z11 fr
    simp only [List.mem_cons, forall_eq_or_imp, List.not_mem_nil, false_implies, implies_true, and_true] at fr
    obtain ⟨z0, z1, z2, z3, z4, z5, z6, z7, z8, z9, z10, rfl⟩ := list11 z11
    obtain ⟨t0, t1, t2, t3, t4, t5, t6, t7, t8, t9, t10, rfl⟩ := ints_list11 I1
    k_steps
    refine hold_elim ?_
    rename News _ _ _ _ => NA
    refine' store_cell ?F3 NA rfl ?hm3 ?hd3 ?h3
    case F3 => k_asm
    case hm3 => k_mem
    case hd3 => assumption
    case h3 =>
      intro h₃ oK n₃ F' N' K' M' dK
      k_steps
      refine hold_elim ?_
      refine' law_rest ?S9 ?hu9 ?m19 ?m29 ?m39 ?m49 ?hlc9 ?hln9 ?hns9 ?B9 M' dK ?hD9 ?hI9 ?hne9 ?hC9 ?dC9 ?n19 ?n29 ?hQ9
      case S9 => exact ⟨by k_asm, by k_asm, by assumption, F', N', Around.frames_deeper (Below.stack (by assumption)), rfl, rfl, by ((try simp only [depth_deeper, depth_caller]); decide), rfl⟩
      case hu9 => units_room
      case m19 => rfl
      case m29 => rfl
      case m39 => rfl
      case m49 => rfl
      case hlc9 => exact kept_cell NA K' (by k_mem) (by assumption) (by k_mem) (fun v e => by cases e)
      case hln9 => exact kept_cell NA K' (by k_mem) (by assumption) (by k_mem) (fun v e => by cases e)
      case hns9 => exact .cons _ _ (.cons _ _ (.cons _ _ (.cons _ _ (.cons _ _ .nil))))
      case B9 => exact ⟨kept_cell NA K' (by k_mem) (by assumption) (by k_mem) (fun v e => by cases e), kept_cell NA K' (by k_mem) (by assumption) (by k_mem) (fun v e => by cases e), kept_cell NA K' (by k_mem) (by assumption) (by k_mem) (fun v e => by cases e), .nil, by decide⟩
      case hD9 => exact kept_cell NA K' (by k_mem) (by assumption) (by k_mem) (fun v e => by cases e)
      case hI9 => exact .cons _ _ (.cons _ _ (.cons _ _ (.cons _ _ (.cons _ _ .nil))))
      case hne9 => exact list_ne NA (by k_mem) (by k_mem) (by exact (show 5 ≠ 0 by decide))
      case hC9 => exact K' _ (by k_mem) (Nat.ne_of_gt (Nat.lt_succ_self _))
      case dC9 => assumption
      case n19 => exact list_ne NA (by k_mem) (by k_mem) (by exact (show 11 ≠ 0 by decide))
      case n29 => exact list_ne NA (by k_mem) (by k_mem) (by exact (show 5 ≠ 0 by decide))
      case hQ9 =>
        intro h' t' m' n' F' N'
        k_steps)
end
end Mine
theorem PySem.Challenge.cw_un0065_03_holds : PySem.Challenge.rw_un0065_03.Holds :=
  Mine.holds3
